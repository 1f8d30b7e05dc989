import Derived.Test.Qxb6601911aModsNormGet
namespace Go.Proofs.Qxb6601911aMods
open Go.RowKit Nm

theorem made27 (w : World) (c : Array Value) (g : Nat → Int) (hc : 53 ≤ c.size) :
    (∀ i, i < 53 → ((w.alloc (.cells c 27)).setCells w.heap.size 0 (arr g).toList).cell? ⟨w.heap.size, i, none⟩ = some (.int .i32 (g i))) ∧ Below w.heap.size w ((w.alloc (.cells c 27)).setCells w.heap.size 0 (arr g).toList) ∧
    w.heap.size < ((w.alloc (.cells c 27)).setCells w.heap.size 0 (arr g).toList).heap.size := by
  have h1 := World.rangeAt_setCells_same (w.alloc (.cells c 27)) w.heap.size 0 (arr g).toList (there_new w c 27 _ (by simpa [arr_size] using hc))
  have h2 : ∀ i, i < 53 → ((w.alloc (.cells c 27)).setCells w.heap.size 0 (arr g).toList).cell? ⟨w.heap.size, i, none⟩ = some (.int .i32 (g i)) := fun i hi => by
    have := h1 i (.int .i32 (g i)) (by rw [Array.getElem?_toList]; exact arr_at g i hi)
    rw [Nat.zero_add] at this
    exact this
  exact ⟨h2, below_setCells (Nat.le_refl _) _ _ _ (bel_alloc (Below.refl _ _) _), World.block_lt_of_cell? _ _ (h2 0 (by omega))⟩

set_option maxHeartbeats 400000 in
set_option maxRecDepth 100000 in
theorem sum_long (L : Int) (a : Nat → Int) (ao : Option Addr) (n cap : Nat) (tot : Int) (w : World) (h : 1048576 < n) :
    Calls Trym.prog 5 #[.int .u64 L, .agg (arr a), .slice ao n cap, .int .i64 tot] w fun e w' => e = .returned (.bool true) ∧ Below w.heap.size w w' := by
  go_enter Trym.func5, Trym.ntmps5
  go_wp2_with (first | (refine wpList_load_row rfl 27 _ rfl w.heap.size rfl 27 (arr a) (0, 0) _ (heap_alloc_new _ _) Trym.underlying27 rfl arr_info ?_) | (go_at_call 18; refine (zzBytes18_no _ _ _ _ _ _ _ (by omega)).mono ?_; rintro e w' ⟨rfl, rfl⟩))
  go_ret
  exact ⟨rfl, bel_alloc (bel_alloc (Below.refl _ _) _) _⟩
set_option maxHeartbeats 400000 in
set_option maxRecDepth 100000 in
theorem sum_mid (L : Int) (a : Nat → Int) (ao : Option Addr) (n cap : Nat) (tot : Int) (w : World) (h : 262144 < n) (h2 : n ≤ 1048576) :
    Calls Trym.prog 5 #[.int .u64 L, .agg (arr a), .slice ao n cap, .int .i64 tot] w fun e w' => e = .returned (.bool true) ∧ Below w.heap.size w w' := by
  go_enter Trym.func5, Trym.ntmps5
  go_wp2_with (first | (refine wpList_load_row rfl 27 _ rfl w.heap.size rfl 27 (arr a) (0, 0) _ (heap_alloc_new _ _) Trym.underlying27 rfl arr_info ?_) | (go_at_call 18; refine (zzBytes18_ok _ _ _ _ _ _ _ (by omega)).mono ?_; rintro e w' ⟨rfl, rfl⟩))
  go_ret
  exact ⟨rfl, bel_alloc (bel_alloc (Below.refl _ _) _) _⟩

set_option maxHeartbeats 2000000 in
set_option maxRecDepth 100000 in
theorem sum_main (L : Int) (a : Nat → Int) (ao : Option Addr) (n cap : Nat) (tot : Int) (h : Nat → Int) (w : World) (hn : n ≤ 262144) (h0 : 0 ≤ L) (hc : CameH w ao n cap h) (hh : ∀ i, i < n → 0 ≤ h i ∧ h i ≤ 4294967295) (t1 : -9223372036854775808 ≤ tot) (t2 : tot ≤ 9223372036854775807) :
    Calls Trym.prog 5 #[.int .u64 L, .agg (arr a), .slice ao n cap, .int .i64 tot] w fun e w' => e = .returned (.bool true) ∧ Below w.heap.size w w' := by
  have HC := hd hc
  have HH := hd hh
  clear hc hh
  go_enter Trym.func5, Trym.ntmps5
  go_wp2_with (first | (refine wpList_load_row rfl 27 _ rfl w.heap.size rfl 27 (arr a) (0, 0) _ (heap_alloc_new _ _) Trym.underlying27 rfl arr_info ?_) | (go_at_call 18; refine (zzBytes18_ok _ _ _ _ _ _ _ (by omega)).mono ?_; rintro e w' ⟨rfl, rfl⟩))
  have B1 : Hid (Below w.heap.size w ((w.alloc (.cells (arr a) 27)).alloc (.cells (arr a) 27))) := bel_alloc (bel_alloc (Below.refl _ _) _) _
  have G1 : Hid (((w.alloc (.cells (arr a) 27)).alloc (.cells (arr a) 27)).heap[w.heap.size]? = some (.cells (arr a) 27 (0, 0))) := by
    exact (Below.heap_alloc _ _ _ (by simp)).trans (heap_alloc_new _ _)
  have S1 : w.heap.size < ((w.alloc (.cells (arr a) 27)).alloc (.cells (arr a) 27)).heap.size := by simp; omega
  generalize ((w.alloc (.cells (arr a) 27)).alloc (.cells (arr a) 27)) = W1 at B1 G1 S1 ⊢
  refine (dom12 L ao n cap tot h W1 h0 (by omega) (HC.out.below B1.out) HH.out t1 t2).mono ?_
  rintro e w' ⟨rfl, rfl⟩
  cases hdm : inDom L n tot h with
  | false =>
    clear hdm
    go_wp2
    go_ret
    exact ⟨rfl, B1.out⟩
  | true =>
    have dm := of_decide_eq_true hdm
    clear hdm
    obtain ⟨d1, d2, d3, d4, d5⟩ := dm
    have pb := pow_bd (L := L) (by omega)
    have D : Dom (2 ^ L.toNat) tot h n := ⟨d4, pb.1, fun i hi => (HH.out i hi).1, d5, d3⟩
    have HD := hd D
    have hnp := D.npos
    have hwr : wrap64 (2 ^ L.toNat) = 2 ^ L.toNat := IntWalk.wrap64_in _ ⟨by omega, by omega⟩
    have HW := hd hwr
    clear d5 d3 D pb hwr
    obtain ⟨x, hx, hcc⟩ : ∃ x, ao = some x ∧ ∀ i, i < n → ∃ b off, x = ⟨b, off, none⟩ ∧ W1.cell? ⟨b, off + i, none⟩ = some (.int .u32 (h i)) := by
      rcases HC.out.below B1.out with ⟨_, h9, _⟩ | h9
      · omega
      · exact h9
    subst hx
    have HX := hd hcc
    clear hcc
    go_wp2_with fail
    refine (clone13 x n cap h W1 (by omega) HX.out).mono ?_
    rintro e w3 ⟨rfl, r3, b3⟩
    have R3 := hd r3
    have B3 : Hid (Below w.heap.size w w3) := B1.out.trans (b3.mono B1.out.size)
    have G3 : Hid (w3.heap[w.heap.size]? = some (.cells (arr a) 27 (0, 0))) := (b3.block _ (by omega)).trans G1.out
    have z3 : W1.heap.size < w3.heap.size := r3.lt
    clear r3 b3 B1 G1 HX
    go_wp2_with (refine wpList_load_row rfl 27 _ rfl w.heap.size rfl 27 (arr a) (0, 0) _ G3.out Trym.underlying27 rfl arr_info ?_)
    refine (enc14 L a w3).mono ?_
    rintro e w4 ⟨rfl, hw4⟩
    have E4 := hd (enc_at w3 L a)
    rw [← hw4] at E4
    have b4 : Below w3.heap.size w3 w4 := by rw [hw4]; exact bel_alloc (bel_alloc (Below.refl _ _) _) _
    have B4 : Hid (Below w.heap.size w w4) := B3.out.trans (b4.mono B3.out.size)
    have C4 : Hid (∀ i, i < n → w4.cell? ⟨W1.heap.size, i, none⟩ = some (.int .u32 (h i))) := fun i hi => (b4.cell z3).trans (R3.out.cell hi)
    have G4 : Hid (w4.heap[w.heap.size]? = some (.cells (arr a) 27 (0, 0))) := (b4.block _ (by omega)).trans G3.out
    clear hw4 b4 R3 B3 G3
    go_wp2_with fail
    refine (norm15 (w3.heap.size + 1) W1.heap.size n L tot h a w4 E4.out (by omega) C4.out h0 d2 d1 HD.out (fun i hi => (HH.out i hi).2) t2).mono ?_
    rintro e w5 ⟨rfl, e5, b5⟩
    have E5 := hd e5
    have B5 : Hid (Below w.heap.size w w5) := B4.out.trans (b5.mono (by omega))
    have C5 : Hid (∀ i, i < n → w5.cell? ⟨W1.heap.size, i, none⟩ = some (.int .u32 (h i))) := fun i hi => (b5.cell (by show W1.heap.size < _; omega)).trans (C4.out i hi)
    have G5 : Hid (w5.heap[w.heap.size]? = some (.cells (arr a) 27 (0, 0))) := (b5.block _ (by omega)).trans G4.out
    have z5 : w3.heap.size + 1 < w5.heap.size := e5.lt
    clear e5 b5 E4 B4 C4 G4
    obtain ⟨f, hf⟩ : ∃ f, f = normOf (2 ^ L.toNat) tot h n := ⟨_, rfl⟩
    rw [← hf] at E5
    have HF := hd hf
    clear hf
    go_wp2_with fail
    refine (get16 (w3.heap.size + 1) L (mix n f a) w5 E5.out).mono ?_
    rintro e w6 ⟨rfl, b6⟩
    have B6 : Hid (Below w.heap.size w w6) := B5.out.trans (b6.mono B5.out.size)
    have C6 : Hid (∀ i, i < n → w6.cell? ⟨W1.heap.size, i, none⟩ = some (.int .u32 (h i))) := fun i hi => (b6.cell (by show W1.heap.size < _; omega)).trans (C5.out i hi)
    have G6 : Hid (w6.heap[w.heap.size]? = some (.cells (arr a) 27 (0, 0))) := (b6.block _ (by omega)).trans G5.out
    have z6 := b6.size
    clear b6 B5 C5 G5 E5
    go_wp2_with (refine wpList_store_mid rfl 27 _ _ rfl w6.heap.size 0 (arr (mix n f a)) rfl rfl (there_new _ _ _ _ (Nat.le_refl 53)) arr_info (arr_one _) ?_)
    rw [HW.out]
    have H7 := hd (made27 w6 #[.int .i32 0, .int .i32 0, .int .i32 0, .int .i32 0, .int .i32 0, .int .i32 0, .int .i32 0, .int .i32 0, .int .i32 0, .int .i32 0, .int .i32 0, .int .i32 0, .int .i32 0, .int .i32 0, .int .i32 0, .int .i32 0, .int .i32 0, .int .i32 0, .int .i32 0, .int .i32 0, .int .i32 0, .int .i32 0, .int .i32 0, .int .i32 0, .int .i32 0, .int .i32 0, .int .i32 0, .int .i32 0, .int .i32 0, .int .i32 0, .int .i32 0, .int .i32 0, .int .i32 0, .int .i32 0, .int .i32 0, .int .i32 0, .int .i32 0, .int .i32 0, .int .i32 0, .int .i32 0, .int .i32 0, .int .i32 0, .int .i32 0, .int .i32 0, .int .i32 0, .int .i32 0, .int .i32 0, .int .i32 0, .int .i32 0, .int .i32 0, .int .i32 0, .int .i32 0, .int .i32 0] (mix n f a) (Nat.le_refl 53))
    generalize ((w6.alloc (.cells #[.int .i32 0, .int .i32 0, .int .i32 0, .int .i32 0, .int .i32 0, .int .i32 0, .int .i32 0, .int .i32 0, .int .i32 0, .int .i32 0, .int .i32 0, .int .i32 0, .int .i32 0, .int .i32 0, .int .i32 0, .int .i32 0, .int .i32 0, .int .i32 0, .int .i32 0, .int .i32 0, .int .i32 0, .int .i32 0, .int .i32 0, .int .i32 0, .int .i32 0, .int .i32 0, .int .i32 0, .int .i32 0, .int .i32 0, .int .i32 0, .int .i32 0, .int .i32 0, .int .i32 0, .int .i32 0, .int .i32 0, .int .i32 0, .int .i32 0, .int .i32 0, .int .i32 0, .int .i32 0, .int .i32 0, .int .i32 0, .int .i32 0, .int .i32 0, .int .i32 0, .int .i32 0, .int .i32 0, .int .i32 0, .int .i32 0, .int .i32 0, .int .i32 0, .int .i32 0, .int .i32 0] 27)).setCells w6.heap.size 0 (arr (mix n f a)).toList) = W7 at H7 ⊢
    obtain ⟨k7, b7, z7⟩ := H7.out
    have hG := HD.out.normOf
    rw [← HF.out] at hG
    have pb := pow_bd (L := L) (by omega)
    obtain ⟨Z, hZ⟩ : ∃ Z : Int, Z = 2 ^ L.toNat := ⟨_, rfl⟩
    rw [← hZ] at hG pb ⊢
    have HG := hd hG.1
    have HP := hd hG.2
    have K7 := hd k7
    have C7 : Hid (∀ i, i < n → W7.cell? ⟨W1.heap.size, i, none⟩ = some (.int .u32 (h i))) := fun i hi => (b7.cell (by show W1.heap.size < _; omega)).trans (C6.out i hi)
    have G7 : Hid (∀ i, i < 53 → W7.cell? ⟨w.heap.size, i, none⟩ = some (.int .i32 (a i))) := fun i hi => by
      have g7 : W7.heap[w.heap.size]? = some (.cells (arr a) 27 (0, 0)) := (b7.block _ (by omega)).trans G6.out
      rw [cell_of_row W7 w.heap.size i (arr a) 27 (0, 0) g7]
      exact arr_at a i hi
    have B7 : Hid (Below w.heap.size w W7) := B6.out.trans (b7.mono B6.out.size)
    clear hG k7 b7 H7 C6 G6 B6 hZ HD HF HW HC
    go_wp2
    go_loop [12, 13] (fun s i => ∃ k : Nat, k ≤ n ∧ i = .int .i64 k ∧ s = .int .i64 (psum f k)) (fun _ i => n - (intOf i).toNat)
    case atStart => exact ⟨0, Nat.zero_le _, rfl, rfl⟩
    case round =>
      obtain ⟨k, hk, rfl, rfl⟩ := hrel
      have p0 := psum_nonneg f k (fun i hi => HG.out.nonneg i (by omega))
      by_cases hlt : k < n
      · have p1 := psum_mono f n (fun i hi => HG.out.nonneg i hi) (k + 1) n (by omega) (Nat.le_refl _)
        rw [HP.out, psum_succ] at p1
        have c1 := K7.out k (by omega)
        rw [mix_lt hlt] at c1
        have c2 := C7.out k hlt
        have f0 := HG.out.nonneg k hlt
        have f1 := HG.out.le k hlt
        have i1 : (k : Int) < 53 := by omega
        by_cases z : h k = 0
        · have z' : (h k == 0) = true := by simp [z]
          have v' : (f k != 0) = false := by rw [bne_eq_false_iff_eq]; exact HG.out.zero k hlt z
          clear z
          go_wp2
          go_round
          case rel => exact ⟨k + 1, by omega, by go_num, rfl⟩
          case measure => simp [intOf]; omega
        · have z' : (h k == 0) = false := by simp [z]
          have v0 := HG.out.one k hlt z
          have v1 : decide (f k < 1) = false := by simp; omega
          have v2 : decide (Z < f k) = false := by simp; omega
          clear z
          go_wp2
          go_round
          case rel => exact ⟨k + 1, by omega, by go_num, rfl⟩
          case measure => simp [intOf]; omega
      · have e : k = n := by omega
        subst e
        have ne : (psum f k != Z) = false := by rw [bne_eq_false_iff_eq]; exact HP.out
        go_wp2
        go_loopw [15] (fun i wr => ∃ j : Nat, k ≤ j ∧ j ≤ 53 ∧ i = .int .i64 j ∧ ∃ q, wr = W7.drewN q) (fun i _ => 53 - (intOf i).toNat)
        case atStart => exact ⟨k, Nat.le_refl _, d1, rfl, 0, rfl⟩
        case round =>
          obtain ⟨j, hj0, hj, rfl, q, rfl⟩ := hrel
          by_cases hlt2 : j < 53
          · have c1 := K7.out j hlt2
            rw [show mix k f a j = a j from by unfold mix; rw [if_neg (by omega)]] at c1
            have c2 := G7.out j hlt2
            have i1 : (j : Int) < 53 := by omega
            have i2 : (0 : Int) ≤ (j : Int) := by omega
            go_wp2
            go_quiet (fail)
            go_wp2
            go_roundw
            case rel => exact ⟨j + 1, by omega, by omega, by go_num, _, rfl⟩
            case measure => simp [intOf]; omega
          · have hj3 : 53 ≤ j := by omega
            go_wp2
            go_ret
            exact ⟨rfl, below_drewN B7.out _⟩
end Go.Proofs.Qxb6601911aMods
