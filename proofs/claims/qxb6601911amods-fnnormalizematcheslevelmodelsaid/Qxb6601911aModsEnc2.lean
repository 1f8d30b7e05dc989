import Derived.Test.Qxb6601911aModsEnc
namespace Go.Proofs.Qxb6601911aMods
open Go.RowKit Nm

theorem Trym.info38 : (Trym.prog.info? 38).map (fun i => (i.zero, i.size, i.bytes)) = some (some (.int .u32 0), 1, 4) := by kernel_rfl

/-- a slice of counts that came in -/
def CameH (w : World) (ao : Option Addr) (len cap : Nat) (z : Nat → Int) : Prop :=
  (ao = none ∧ len = 0 ∧ cap = 0) ∨ ∃ x, ao = some x ∧ ∀ i, i < len → ∃ b off, x = ⟨b, off, none⟩ ∧ w.cell? ⟨b, off + i, none⟩ = some (.int .u32 (z i))
theorem CameH.below {w w' : World} {ao : Option Addr} {len cap : Nat} {z : Nat → Int} (h : CameH w ao len cap z) (hb : Below w.heap.size w w') : CameH w' ao len cap z := by
  rcases h with h | ⟨x, hx, hc⟩
  · exact .inl h
  · refine .inr ⟨x, hx, fun i hi => ?_⟩
    obtain ⟨b, off, rfl, hcell⟩ := hc i hi
    exact ⟨b, off, rfl, (hb.cell (World.block_lt_of_cell? w _ hcell)).trans hcell⟩

set_option maxHeartbeats 400000 in
theorem clone13 (x : Addr) (len cap : Nat) (z : Nat → Int) (w : World) (hlen : len ≤ 53) (hc : ∀ i, i < len → ∃ b off, x = ⟨b, off, none⟩ ∧ w.cell? ⟨b, off + i, none⟩ = some (.int .u32 (z i))) :
    Calls Trym.prog 13 #[.slice (some x) len cap] w fun e w' => e = .returned (.slice (some ⟨w.heap.size, 0, none⟩) len len) ∧ w'.rowIs w.heap.size 38 len (fun j => .int .u32 (z j)) ∧ Below w.heap.size w w' := by
  have hmk := run_make_row' (P := Trym.prog) 28 38 (.int .u32 0) 4 Trym.underlying28 Trym.info38 rfl .i64 .i64 len (by omega) (by omega)
  have hn := fun (w : World) => Lib.run_eql_slice_nil (P := Trym.prog) w 28 38 (some x) len cap 0 0 Trym.underlying28
  have HC := hd hc
  clear hc
  go_enter Trym.func13, Trym.ntmps13
  go_wp2
  go_loopw [4] (fun i wr => ∃ k : Nat, k ≤ len ∧ i = .int .i64 k ∧ wr.rowIs w.heap.size 38 len (fun j => if j < k then .int .u32 (z j) else .int .u32 0) ∧ Below w.heap.size w wr) (fun i _ => len - (intOf i).toNat)
  case atStart => exact ⟨0, Nat.zero_le _, rfl, (World.rowIs_made _ _ _ _).congr (by intro i _; simp), (Below.refl _ _).alloc (Nat.le_refl _) _⟩
  case round =>
    obtain ⟨k, hk, rfl, hrow, hbel⟩ := hrel
    by_cases hlt : k < len
    · obtain ⟨b, off, rfl, hck⟩ := HC.out k hlt
      have s1 : wr.cell? ⟨b, off + k, none⟩ = some (.int .u32 (z k)) := (hbel.cell (World.block_lt_of_cell? w _ hck)).trans hck
      have s2 := hrow.cell hlt
      have s3 := hrow.frozen k
      simp at s2
      have hrow2 := hd ((hrow.set k (.int .u32 (z k))).congr (g := fun j => if j < k + 1 then .int .u32 (z j) else .int .u32 0) (by
        intro i _; by_cases e : i = k
        · subst e; simp
        · by_cases e2 : i < k <;> simp [e, e2] <;> omega))
      have hbel2 := hd (hbel.setCell (p := ⟨w.heap.size, k, none⟩) (Nat.le_refl _) (.int .u32 (z k)))
      clear hrow hbel hmk hn hck HC
      go_wp2
      go_roundw
      case rel => exact ⟨k + 1, by omega, by go_num, hrow2.out, hbel2.out⟩
      case measure => simp [intOf]; omega
    · have e : k = len := by omega
      subst e
      clear hmk hn
      go_wp2
      go_ret
      exact ⟨rfl, hrow.congr (by intro i hi; simp [hi]), hbel⟩

/-- 'is it in normalize's domain?': a yes tells all -/
def inDom (L : Int) (n : Nat) (tot : Int) (h : Nat → Int) : Bool := decide (n ≤ 53 ∧ L ≤ 30 ∧ 2 * (n : Int) ≤ 2 ^ L.toNat ∧ 0 < tot ∧ psum h n = tot)

theorem pow_bd {L : Int} (h1 : L ≤ 30) : (1 : Int) ≤ 2 ^ L.toNat ∧ (2 : Int) ^ L.toNat ≤ 1073741824 := by
  have a : 2 ^ L.toNat ≤ 2 ^ 30 := Nat.pow_le_pow_right (by decide) (by omega)
  have b : 0 < 2 ^ L.toNat := Nat.pow_pos (by decide)
  have e : ((2 ^ L.toNat : Nat) : Int) = (2 : Int) ^ L.toNat := by simp
  omega
theorem psum_u32 (h : Nat → Int) : ∀ n : Nat, (∀ i, i < n → 0 ≤ h i ∧ h i ≤ 4294967295) → 0 ≤ psum h n ∧ psum h n ≤ 4294967295 * n
  | 0, _ => by simp [psum]
  | n + 1, hh => by
    have ih := psum_u32 h n (fun i hi => hh i (by omega))
    have := hh n (by omega)
    rw [psum_succ]
    omega

set_option maxHeartbeats 1000000 in
theorem dom12 (L : Int) (ao : Option Addr) (n cap : Nat) (tot : Int) (h : Nat → Int) (w : World) (h0 : 0 ≤ L) (hn : n ≤ 9223372036854775807) (hc : CameH w ao n cap h) (hh : ∀ i, i < n → 0 ≤ h i ∧ h i ≤ 4294967295) (t1 : -9223372036854775808 ≤ tot) (t2 : tot ≤ 9223372036854775807) :
    Calls Trym.prog 12 #[.int .u64 L, .slice ao n cap, .int .i64 tot] w fun e w' => e = .returned (.bool (inDom L n tot h)) ∧ w = w' := by
  by_cases c1 : 53 < n
  · have e : inDom L n tot h = false := by unfold inDom; exact decide_eq_false (by omega)
    rw [e]; clear e hc hh
    have d1 : decide ((53 : Int) < (n : Int)) = true := by simp; omega
    go_enter Trym.func12, Trym.ntmps12
    go_wp2
    go_ret
    exact ⟨rfl, rfl⟩
  have d1 : decide ((53 : Int) < (n : Int)) = false := by simp; omega
  by_cases c2 : 30 < L
  · have e : inDom L n tot h = false := by unfold inDom; exact decide_eq_false (by omega)
    rw [e]; clear e hc hh
    have d2 : decide ((30 : Int) < L) = true := by simp; omega
    go_enter Trym.func12, Trym.ntmps12
    go_wp2
    go_ret
    exact ⟨rfl, rfl⟩
  have d2 : decide ((30 : Int) < L) = false := by simp; omega
  have pb := pow_bd (L := L) (by omega)
  obtain ⟨Z, hZ⟩ : ∃ Z : Int, Z = 2 ^ L.toNat := ⟨_, rfl⟩
  have hw : wrap64 (2 ^ L.toNat) = Z := by rw [← hZ]; exact IntWalk.wrap64_in Z ⟨by omega, by omega⟩
  rw [← hZ] at pb
  have HZ := hd hZ
  clear hZ
  by_cases c3 : Z < 2 * (n : Int)
  · have e : inDom L n tot h = false := by unfold inDom; rw [← HZ.out]; exact decide_eq_false (by omega)
    rw [e]; clear e hc hh
    go_enter Trym.func12, Trym.ntmps12
    go_wp2
    go_ret
    exact ⟨rfl, rfl⟩
  have d3 : decide (Z < 2 * (n : Int)) = false := by simp; omega
  by_cases c4 : tot ≤ 0
  · have e : inDom L n tot h = false := by unfold inDom; exact decide_eq_false (by omega)
    rw [e]; clear e hc hh
    go_enter Trym.func12, Trym.ntmps12
    go_wp2
    go_ret
    exact ⟨rfl, rfl⟩
  have e : inDom L n tot h = (psum h n == tot) := by
    unfold inDom; rw [← HZ.out, Bool.eq_iff_iff]; simp; omega
  rw [e]; clear e
  have HC := hd hc
  have HH := hd hh
  clear hc hh
  go_enter Trym.func12, Trym.ntmps12
  go_wp2
  go_loop [7, 8] (fun s i => ∃ k : Nat, k ≤ n ∧ i = .int .i64 k ∧ s = .int .u64 (psum h k)) (fun _ i => n - (intOf i).toNat)
  case atStart => exact ⟨0, Nat.zero_le _, rfl, rfl⟩
  case round =>
    obtain ⟨k, hk, rfl, rfl⟩ := hrel
    have sb := psum_u32 h k (fun i hi => HH.out i (by omega))
    by_cases hlt : k < n
    · rcases HC.out with ⟨_, h9, _⟩ | ⟨x, rfl, hcc⟩
      · omega
      obtain ⟨b, off, rfl, hck⟩ := hcc k hlt
      have hb := HH.out k hlt
      clear hcc
      go_wp2
      go_round
      case rel => exact ⟨k + 1, by omega, by go_num, rfl⟩
      case measure => simp [intOf]; omega
    · have e : k = n := by omega
      subst e
      go_wp2
      go_ret
      exact ⟨rfl, rfl⟩
end Go.Proofs.Qxb6601911aMods
