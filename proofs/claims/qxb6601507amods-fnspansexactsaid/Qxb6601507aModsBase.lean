import Derived.Test.Qxb6601507aModsProg
import Derived.Test.Qxb6601507aModsPlain
import Derived.WalkKit
import Derived.WalkSpells
import Derived.WalkLawsBesides
import Derived.Deep.QuietTactic
import Derived.BigQuiet
import Derived.RegionTactic
namespace Go.Proofs.Qxb6601507aMods
open Go.RowKit

/-- the block of a blockSpan -/
def spanObj (size first last skip ln : Int) : Obj := .cells #[.int .i64 size, .int .i64 first, .int .i64 last, .int .i64 skip, .int .i64 ln] 50

set_option maxHeartbeats 400000 in
theorem spanOf_any (size off ln : Int) (w : World) (h0 : 0 ≤ off) (h1 : 0 ≤ ln) (h2 : off + ln ≤ 9223372036854775807) :
    Calls Trym.prog 29 #[.int .i64 size, .int .i64 off, .int .i64 ln] w fun e w' =>
      e = .returned (.agg #[.int .i64 size, .int .i64 (off / 65536), .int .i64 (max (off + ln - 1) off / 65536), .int .i64 (off - off / 65536 * 65536), .int .i64 ln]) ∧
      w' = w.alloc (spanObj size (off / 65536) (max (off + ln - 1) off / 65536) (off - off / 65536 * 65536) ln) := by
  by_cases h : off + ln - 1 < off
  · have e : max (off + ln - 1) off = off := by omega
    rw [e]; clear e
    go_enter Trym.func29, Trym.ntmps29
    go_wp2
    exact bodyPost_ret (v := .agg #[.int .i64 size, .int .i64 (off / 65536), .int .i64 (off / 65536), .int .i64 (off - off / 65536 * 65536), .int .i64 ln]) (by simp [results, Trym.results29, go_sem]) rfl ⟨rfl, rfl⟩
  · have e : max (off + ln - 1) off = off + ln - 1 := by omega
    rw [e]; clear e
    go_enter Trym.func29, Trym.ntmps29
    go_wp2
    exact bodyPost_ret (v := .agg #[.int .i64 size, .int .i64 (off / 65536), .int .i64 ((off + ln - 1) / 65536), .int .i64 (off - off / 65536 * 65536), .int .i64 ln]) (by simp [results, Trym.results29, go_sem]) rfl ⟨rfl, rfl⟩

set_option maxHeartbeats 400000 in
theorem sealedStart_any (size first last skip ln : Int) (w : World) (h0 : 0 ≤ first) (h1 : first ≤ 140703137003519) :
    Calls Trym.prog 30 #[.agg #[.int .i64 size, .int .i64 first, .int .i64 last, .int .i64 skip, .int .i64 ln]] w fun e w' =>
      e = .returned (.int .i64 (first * 65552)) ∧ w' = w.alloc (spanObj size first last skip ln) := by
  go_enter Trym.func30, Trym.ntmps30
  go_wp2
  go_ret
  exact ⟨rfl, rfl⟩

theorem ret_int {k : IntKind} {a b : Int} (h : a = b) : Ending.returned (.int k a) = .returned (.int k b) := by rw [h]

set_option maxHeartbeats 400000 in
theorem sealedEnd_any (size first last skip ln : Int) (w : World) (h0 : 0 ≤ last) (h1 : last ≤ 140703137003519) :
    Calls Trym.prog 31 #[.agg #[.int .i64 size, .int .i64 first, .int .i64 last, .int .i64 skip, .int .i64 ln]] w fun e w' =>
      e = .returned (.int .i64 (min ((last + 1) * 65552) size)) ∧ w' = w.alloc (spanObj size first last skip ln) := by
  by_cases h : (last + 1) * 65552 < size
  · have e : min ((last + 1) * 65552) size = (last + 1) * 65552 := by omega
    rw [e]; clear e
    go_enter Trym.func31, Trym.ntmps31
    go_wp2
    go_ret
    exact ⟨rfl, rfl⟩
  · have e : min ((last + 1) * 65552) size = size := by omega
    rw [e]; clear e
    go_enter Trym.func31, Trym.ntmps31
    go_wp2
    all_goals go_ret
    all_goals first | exact ⟨rfl, rfl⟩ | exact ⟨ret_int (by omega), rfl⟩

theorem ret_true {b : Bool} (h : b = true) : Ending.returned (.bool b) = .returned (.bool true) := by rw [h]

set_option maxHeartbeats 1000000 in
theorem blockOK_any (fr ln first last skip : Int) (w : World) (h0 : 0 ≤ fr) (h1 : 0 ≤ ln) (h2 : fr + ln ≤ 9223372036854775807)
    (hf : Hid (first = fr / 65536)) (hl : Hid (last = max (fr + ln - 1) fr / 65536)) (hs : Hid (skip = fr - first * 65536)) :
    Calls Trym.prog 18 #[.int .i64 fr, .int .i64 ln, .int .i64 first, .int .i64 last, .int .i64 skip] w fun e w' => e = .returned (.bool true) ∧ w' = w := by
  have f1 : 0 ≤ first := by have := hf.out; omega
  have f2 : first * 65536 + skip ≤ fr := by have := hs.out; omega
  have f2' : fr ≤ first * 65536 + skip := by have := hs.out; omega
  have f3 : 0 ≤ skip := by have := hf.out; have := hs.out; omega
  have f4 : skip < 65536 := by have := hf.out; have := hs.out; omega
  have l1 : 0 ≤ last := by have := hl.out; omega
  have f5 : first ≤ 140737488355327 := by omega
  by_cases c : 0 < ln
  · have l2 : last * 65536 ≤ fr + ln - 1 := by have := hl.out; omega
    have l3 : fr + ln - 1 - last * 65536 < 65536 := by have := hl.out; omega
    have l4 : last ≤ 140737488355327 := by omega
    have d1 : decide (first < 0) = false := by simp; omega
    have d2 : decide (140737488355327 < first) = false := by simp; omega
    have d3 : decide (last < 0) = false := by simp; omega
    have d4 : decide (140737488355327 < last) = false := by simp; omega
    have d5 : decide (skip < 0) = false := by simp; omega
    have d6 : decide (65536 ≤ skip) = false := by simp; omega
    have d7 : (first * 65536 + skip != fr) = false := by simp; omega
    go_enter Trym.func18, Trym.ntmps18
    go_wp2
    go_ret
    exact ⟨ret_true (by simp), rfl⟩
  · have l2 : last * 65536 ≤ fr := by have := hl.out; omega
    have l3 : fr - last * 65536 < 65536 := by have := hl.out; omega
    have l4 : last ≤ 140737488355327 := by omega
    have d1 : decide (first < 0) = false := by simp; omega
    have d2 : decide (140737488355327 < first) = false := by simp; omega
    have d3 : decide (last < 0) = false := by simp; omega
    have d4 : decide (140737488355327 < last) = false := by simp; omega
    have d5 : decide (skip < 0) = false := by simp; omega
    have d6 : decide (65536 ≤ skip) = false := by simp; omega
    have d7 : (first * 65536 + skip != fr) = false := by simp; omega
    go_enter Trym.func18, Trym.ntmps18
    go_wp2
    go_ret
    exact ⟨ret_true (by simp), rfl⟩
end Go.Proofs.Qxb6601507aMods
