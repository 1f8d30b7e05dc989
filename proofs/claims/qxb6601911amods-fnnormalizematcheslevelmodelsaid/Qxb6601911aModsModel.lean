import Derived.Test.Qxb6601911aModsNormGet
namespace Go.Proofs.Qxb6601911aMods
open Go.RowKit Nm

/-- the 53 cells of an array of int64 -/
def arr64 (a : Nat → Int) : Array Value := #[.int .i64 (a 0), .int .i64 (a 1), .int .i64 (a 2), .int .i64 (a 3), .int .i64 (a 4), .int .i64 (a 5), .int .i64 (a 6), .int .i64 (a 7), .int .i64 (a 8), .int .i64 (a 9), .int .i64 (a 10), .int .i64 (a 11), .int .i64 (a 12), .int .i64 (a 13), .int .i64 (a 14), .int .i64 (a 15), .int .i64 (a 16), .int .i64 (a 17), .int .i64 (a 18), .int .i64 (a 19), .int .i64 (a 20), .int .i64 (a 21), .int .i64 (a 22), .int .i64 (a 23), .int .i64 (a 24), .int .i64 (a 25), .int .i64 (a 26), .int .i64 (a 27), .int .i64 (a 28), .int .i64 (a 29), .int .i64 (a 30), .int .i64 (a 31), .int .i64 (a 32), .int .i64 (a 33), .int .i64 (a 34), .int .i64 (a 35), .int .i64 (a 36), .int .i64 (a 37), .int .i64 (a 38), .int .i64 (a 39), .int .i64 (a 40), .int .i64 (a 41), .int .i64 (a 42), .int .i64 (a 43), .int .i64 (a 44), .int .i64 (a 45), .int .i64 (a 46), .int .i64 (a 47), .int .i64 (a 48), .int .i64 (a 49), .int .i64 (a 50), .int .i64 (a 51), .int .i64 (a 52)]
theorem arr64_list (a : Nat → Int) : (arr64 a).toList = (List.range 53).map (fun i => Value.int .i64 (a i)) := rfl
theorem arr64_size (a : Nat → Int) : (arr64 a).size = 53 := rfl
theorem arr64_at (a : Nat → Int) (i : Nat) (h : i < 53) : (arr64 a)[i]? = some (.int .i64 (a i)) := by
  rw [← Array.getElem?_toList, arr64_list]
  simp [List.getElem?_range h]
theorem arr64_info : (Trym.prog.info? 52).map (·.size) = some 53 := by kernel_rfl

/-- block b holds the int64 array g -/
def RAt (w : World) (b : Nat) (g : Nat → Int) : Prop := w.heap[b]? = some (.cells (arr64 g) 52 (0, 0))
theorem RAt.rowIs {w : World} {b : Nat} {g : Nat → Int} (h : RAt w b g) : w.rowIs b 52 53 (fun i => .int .i64 (g i)) :=
  ⟨arr64 g, h, arr64_size g, fun i hi => arr64_at g i hi⟩
theorem rAt_of {w : World} {b : Nat} {g : Nat → Int} (h : w.rowIs b 52 53 (fun i => .int .i64 (g i))) : RAt w b g := by
  obtain ⟨c, h1, h2, h3⟩ := h
  have e : c = arr64 g := by
    apply Array.ext
    · rw [h2, arr64_size]
    · intro i hi1 hi2
      have a1 := h3 i (by omega)
      have a2 := arr64_at g i (by omega)
      rw [Array.getElem?_eq_getElem hi1] at a1
      rw [Array.getElem?_eq_getElem hi2] at a2
      rw [Option.some.inj a1, Option.some.inj a2]
  unfold RAt
  rw [h1, e]
theorem RAt.set {w : World} {b : Nat} {g : Nat → Int} (h : RAt w b g) (k : Nat) (v : Int) : RAt (w.setCell ⟨b, k, none⟩ (.int .i64 v)) b (upd g k v) :=
  rAt_of ((h.rowIs.set k (.int .i64 v)).congr (by
    intro i _
    by_cases e : i = k
    · subst e; simp [upd]
    · simp [upd, e]))
theorem RAt.congr {w : World} {b : Nat} {g g' : Nat → Int} (h : RAt w b g) (e : ∀ i, i < 53 → g i = g' i) : RAt w b g' :=
  rAt_of (h.rowIs.congr (by intro i hi; rw [e i hi]))
theorem RAt.cell {w : World} {b : Nat} {g : Nat → Int} (h : RAt w b g) (i : Nat) (hi : i < 53) : w.cell? ⟨b, i, none⟩ = some (.int .i64 (g i)) ∧ w.frozen? ⟨b, i, none⟩ = false :=
  ⟨h.rowIs.cell hi, h.rowIs.frozen i⟩

theorem excess_bd {f : Nat → Int} {t : Int} (ht : 0 ≤ t) : ∀ n : Nat, (∀ i, i < n → f i ≤ 2147483648) → excess f t n ≤ 2147483648 * n
  | 0, _ => by simp [excess]
  | n + 1, h => by
    have ih := excess_bd (f := f) ht n (fun i hi => h i (by omega))
    have := h n (by omega)
    rw [excess_succ]
    split <;> omega

set_option maxHeartbeats 400000 in
theorem excess25 (g : Nat → Int) (n : Nat) (t : Int) (w : World) (hn : n ≤ 53) (ht : 0 ≤ t) (ht2 : t ≤ 2147483648) (hg : ∀ i, i < n → 0 ≤ g i ∧ g i ≤ 2147483648) :
    Calls Trym.prog 25 #[.agg (arr64 g), .int .i64 n, .int .i64 t] w fun e w' => e = .returned (.int .i64 (excess g t n)) ∧ w' = w.alloc (.cells (arr64 g) 52) := by
  have HG := hd hg
  have hr : RAt (w.alloc (.cells (arr64 g) 52)) w.heap.size g := heap_alloc_new _ _
  have HR := hd hr
  clear hg hr
  go_enter Trym.func25, Trym.ntmps25
  go_wp2
  go_loop [7, 8] (fun s i => ∃ k : Nat, k ≤ n ∧ i = .int .i64 k ∧ s = .int .i64 (excess g t k)) (fun _ i => n - (intOf i).toNat)
  case atStart => exact ⟨0, Nat.zero_le _, rfl, rfl⟩
  case round =>
    obtain ⟨k, hk, rfl, rfl⟩ := hrel
    have e0 := excess_nonneg g t k
    have e1 := excess_bd (f := g) ht k (fun i hi => (HG.out i (by omega)).2)
    by_cases hlt : k < n
    · have c1 := (HR.out.cell k (by omega)).1
      have b1 := HG.out k hlt
      have i1 : (k : Int) < 53 := by omega
      by_cases c : t < g k
      · have HX : Hid (excess g t (k + 1) = excess g t k + (g k - t)) := by show _ = _; rw [excess_succ, if_pos c]
        go_wp2
        go_round
        case rel => exact ⟨k + 1, by omega, by go_num, by rw [HX.out]⟩
        case measure => simp [intOf]; omega
      · have HX : Hid (excess g t (k + 1) = excess g t k) := by show _ = _; rw [excess_succ, if_neg c]; simp
        go_wp2
        go_round
        case rel => exact ⟨k + 1, by omega, by go_num, by rw [HX.out]⟩
        case measure => simp [intOf]; omega
    · have e : k = n := by omega
      subst e
      go_wp2
      go_ret
      exact ⟨rfl, rfl⟩
end Go.Proofs.Qxb6601911aMods
