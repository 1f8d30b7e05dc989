import Derived.Test.Qxb6601507aModsZZ
import Derived.Test.Qxb6601507aModsClone
namespace Go.Proofs.Qxb6601507aMods
open Go.RowKit Pl

theorem zzBytes20_ok (a : Option Addr) (len cap : Nat) (x y : Int) (w : World) (h : len ≤ 1048576) :
    Calls Trym.prog 20 #[.slice a len cap, .int .i64 x, .int .i64 y] w fun e w' => e = .returned (.bool true) ∧ w = w' := by
  go_enter Trym.func20, Trym.ntmps20
  go_wp2
  go_ret
  exact ⟨rfl, rfl⟩
theorem zzBytes20_no (a : Option Addr) (len cap : Nat) (x y : Int) (w : World) (h : 1048576 < len) :
    Calls Trym.prog 20 #[.slice a len cap, .int .i64 x, .int .i64 y] w fun e w' => e = .returned (.bool false) ∧ w = w' := by
  go_enter Trym.func20, Trym.ntmps20
  go_wp2
  go_ret
  exact ⟨rfl, rfl⟩
theorem max23 (a b : Int) (w : World) : Calls Trym.prog 23 #[.int .i64 a, .int .i64 b] w fun e w' => e = .returned (.int .i64 (max a b)) ∧ w = w' := by
  by_cases h : b < a
  · rw [show max a b = a from by omega]
    go_enter Trym.func23, Trym.ntmps23
    go_wp2
    go_ret
    exact ⟨rfl, rfl⟩
  · rw [show max a b = b from by omega]
    go_enter Trym.func23, Trym.ntmps23
    go_wp2
    go_ret
    exact ⟨rfl, rfl⟩
theorem min24 (a b : Int) (w : World) : Calls Trym.prog 24 #[.int .i64 a, .int .i64 b] w fun e w' => e = .returned (.int .i64 (min a b)) ∧ w = w' := by
  by_cases h : a < b
  · rw [show min a b = a from by omega]
    go_enter Trym.func24, Trym.ntmps24
    go_wp2
    go_ret
    exact ⟨rfl, rfl⟩
  · rw [show min a b = b from by omega]
    go_enter Trym.func24, Trym.ntmps24
    go_wp2
    go_ret
    exact ⟨rfl, rfl⟩

/-- a slice of parts that came in -/
def CameP (w : World) (ao : Option Addr) (len : Nat) (se pl : Nat → Int) : Prop :=
  (ao = none ∧ len = 0) ∨ ∃ x, ao = some x ∧ ∀ i, i < len → ∃ b off, x = ⟨b, off, none⟩ ∧ w.cell? ⟨b, off + i * 2, none⟩ = some (.int .i64 (se i)) ∧ w.cell? ⟨b, off + i * 2 + 1, none⟩ = some (.int .i64 (pl i))
theorem CameP.below {w w' : World} {ao : Option Addr} {len : Nat} {se pl : Nat → Int} (h : CameP w ao len se pl) (hb : Below w.heap.size w w') : CameP w' ao len se pl := by
  rcases h with h | ⟨x, hx, hc⟩
  · exact .inl h
  · refine .inr ⟨x, hx, fun i hi => ?_⟩
    obtain ⟨b, off, rfl, c1, c2⟩ := hc i hi
    have hlt : b < w.heap.size := World.block_lt_of_cell? w _ c1
    exact ⟨b, off, rfl, (hb.cell hlt).trans c1, (hb.cell hlt).trans c2⟩
/-- a slice of parts that the call made -/
def MadeP (w : World) (b : Nat) (ao : Option Addr) (n : Nat) (se pl : Nat → Int) : Prop :=
  (ao = none ∧ n = 0) ∨ (ao = some ⟨b, 0, none⟩ ∧ b < w.heap.size ∧ ∀ i, i < n → w.cell? ⟨b, i * 2, none⟩ = some (.int .i64 (se i)) ∧ w.cell? ⟨b, i * 2 + 1, none⟩ = some (.int .i64 (pl i)))
theorem MadeP.below {w w' : World} {B b n : Nat} {ao : Option Addr} {se pl : Nat → Int} (h : MadeP w b ao n se pl) (hb : Below B w w') (hB : B = w.heap.size) : MadeP w' b ao n se pl := by
  subst hB
  rcases h with h | ⟨h1, h2, h3⟩
  · exact .inl h
  · exact .inr ⟨h1, Nat.lt_of_lt_of_le h2 hb.size, fun i hi => ⟨(hb.cell h2).trans (h3 i hi).1, (hb.cell h2).trans (h3 i hi).2⟩⟩

theorem Trym.info37 : (Trym.prog.info? 37).map (fun i => (i.zero, i.size, i.bytes)) = some (some (.agg #[.int .i64 0, .int .i64 0]), 2, 16) := by kernel_rfl
def partsObj (n : Nat) : Obj := .cells (madeCells (Value.agg #[.int .i64 0, .int .i64 0]).cells (n * 2)) 37
theorem make34 (n : Nat) (hn : n ≤ 1048576) (w : World) : (Instr.makeSlice 34 (.int .i64 (n : Int)) (.int .i64 (n : Int))).run Trym.prog w = .ok (.slice (some ⟨w.heap.size, 0, none⟩) n n) (w.alloc (partsObj n)) :=
  run_make_any 34 37 2 16 _ Trym.underlying34 Trym.info37 n (by omega) (by omega) w
theorem parts_row (w : World) (n : Nat) : ∃ f, (w.alloc (partsObj n)).rowIs w.heap.size 37 (n * 2) f := rowIs_any w _ 37 _ (size_madeCells _ _)
def partsOK (se pl : Nat → Int) (f : Nat → Value) (k : Nat) : Prop := ∀ i, i < k → f (i * 2) = .int .i64 (se i) ∧ f (i * 2 + 1) = .int .i64 (pl i)
def partSet (se pl : Nat → Int) (f : Nat → Value) (k : Nat) : Nat → Value := fun j => if j = k * 2 + 1 then .int .i64 (pl k) else if j = k * 2 then .int .i64 (se k) else f j
theorem partSet_ok {se pl : Nat → Int} {f : Nat → Value} {k : Nat} (h : partsOK se pl f k) : partsOK se pl (partSet se pl f k) (k + 1) := by
  intro i hi
  by_cases e : i = k
  · subst e
    refine ⟨?_, ?_⟩ <;> simp [partSet]
  · have := h i (by omega)
    refine ⟨?_, ?_⟩
    · rw [partSet, if_neg (by omega), if_neg (by omega)]; exact this.1
    · rw [partSet, if_neg (by omega), if_neg (by omega)]; exact this.2
theorem partSet_row {w : World} {b N : Nat} {se pl : Nat → Int} {f : Nat → Value} (k : Nat) (h : w.rowIs b 37 N f) :
    ((w.setCell ⟨b, k * 2, none⟩ (.int .i64 (se k))).setCell ⟨b, k * 2 + 1, none⟩ (.int .i64 (pl k))).rowIs b 37 N (partSet se pl f k) :=
  (h.set _ _).set _ _

theorem clone21_nil (w : World) (cap : Nat) : Calls Trym.prog 21 #[.slice none 0 cap] w fun e w' => e = .returned (.slice none 0 0) ∧ w = w' := by
  have hn := fun (w : World) => Lib.run_eql_slice_nil (P := Trym.prog) w 34 37 none 0 cap 0 0 Trym.underlying34
  go_enter Trym.func21, Trym.ntmps21
  go_wp2
  go_ret
  exact ⟨rfl, rfl⟩
set_option maxHeartbeats 400000 in
theorem clone21_some (x : Addr) (len cap : Nat) (se pl : Nat → Int) (w : World) (hlen : len ≤ 1048576)
    (hc : ∀ i, i < len → ∃ b off, x = ⟨b, off, none⟩ ∧ w.cell? ⟨b, off + i * 2, none⟩ = some (.int .i64 (se i)) ∧ w.cell? ⟨b, off + i * 2 + 1, none⟩ = some (.int .i64 (pl i))) :
    Calls Trym.prog 21 #[.slice (some x) len cap] w fun e w' => e = .returned (.slice (some ⟨w.heap.size, 0, none⟩) len len) ∧ (∃ f, w'.rowIs w.heap.size 37 (len * 2) f ∧ partsOK se pl f len) ∧ Below w.heap.size w w' := by
  have hmk := make34 len hlen
  have hn := fun (w : World) => Lib.run_eql_slice_nil (P := Trym.prog) w 34 37 (some x) len cap 0 0 Trym.underlying34
  have HC := hd hc
  clear hc
  go_enter Trym.func21, Trym.ntmps21
  go_wp2
  go_loopw [4] (fun i wr => ∃ k : Nat, k ≤ len ∧ i = .int .i64 k ∧ (∃ f, wr.rowIs w.heap.size 37 (len * 2) f ∧ partsOK se pl f k) ∧ Below w.heap.size w wr) (fun i _ => len - (intOf i).toNat)
  case atStart =>
    obtain ⟨f, hf⟩ := parts_row w len
    exact ⟨0, Nat.zero_le _, rfl, ⟨f, hf, fun i hi => absurd hi (by omega)⟩, (Below.refl _ _).alloc (Nat.le_refl _) _⟩
  case round =>
    obtain ⟨k, hk, rfl, ⟨f, hf, kf⟩, hbel⟩ := hrel
    by_cases hlt : k < len
    · obtain ⟨b, off, rfl, c1, c2⟩ := HC.out k hlt
      have hblt : b < w.heap.size := World.block_lt_of_cell? w _ c1
      have s1 := (hbel.cell (p := ⟨b, off + k * 2, none⟩) hblt).trans c1
      have s2 := (hbel.cell (p := ⟨b, off + k * 2 + 1, none⟩) hblt).trans c2
      have x0 := hf.cell (i := k * 2) (by omega)
      have x1 := hf.cell (i := k * 2 + 1) (by omega)
      have y0 := hf.frozen (k * 2)
      have y1 := hf.frozen (k * 2 + 1)
      have HF := hd (And.intro hf (And.intro kf hbel))
      clear hf kf hbel hmk hn c1 c2 HC hblt
      go_wp2
      go_roundw
      case rel =>
        obtain ⟨hf, kf, hbel⟩ := HF.out
        exact ⟨k + 1, by omega, by go_num, ⟨_, partSet_row k hf, partSet_ok kf⟩, (hbel.setCell (Nat.le_refl _) _).setCell (Nat.le_refl _) _⟩
      case measure => simp [intOf]; omega
    · have e : k = len := by omega
      subst e
      clear hmk hn
      go_wp2
      go_ret
      exact ⟨rfl, ⟨f, hf, kf⟩, hbel⟩
theorem clone21 (ao : Option Addr) (len cap : Nat) (se pl : Nat → Int) (w : World) (hlen : len ≤ 1048576) (h : CameP w ao len se pl) :
    Calls Trym.prog 21 #[.slice ao len cap] w fun e w' => ∃ ao', e = .returned (.slice ao' len len) ∧ MadeP w' w.heap.size ao' len se pl ∧ Below w.heap.size w w' := by
  rcases h with ⟨rfl, rfl⟩ | ⟨x, rfl, hc⟩
  · refine (clone21_nil w cap).mono ?_
    rintro e w' ⟨rfl, rfl⟩
    exact ⟨none, rfl, .inl ⟨rfl, rfl⟩, Below.refl _ _⟩
  · refine (clone21_some x len cap se pl w hlen hc).mono ?_
    rintro e w' ⟨rfl, ⟨f, hf, kf⟩, hb⟩
    exact ⟨_, rfl, .inr ⟨rfl, hf.lt, fun i hi => ⟨by rw [hf.cell (by omega), (kf i hi).1], by rw [hf.cell (by omega), (kf i hi).2]⟩⟩, hb⟩
end Go.Proofs.Qxb6601507aMods
