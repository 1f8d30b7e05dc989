import Derived.Test.Qxb6601507aModsSplit
namespace Go.Proofs.Qxb6601507aMods
open Go.RowKit Pl

set_option maxHeartbeats 400000 in
set_option maxRecDepth 100000 in
theorem split_long (ao : Option Addr) (len cap : Nat) (o a c : Int) (w : World) (h : 1048576 < len) (_hm : len ≤ 9223372036854775807) :
    Calls Trym.prog 9 #[.slice ao len cap, .int .i64 o, .int .i64 a, .int .i64 c] w fun e w' => e = .returned (.bool true) ∧ Below w.heap.size w w' := by
  go_enter Trym.func9, Trym.ntmps9
  go_wp2_with (go_at_call 25; refine (zzBytes25_no _ _ _ _ _ _ _ (by omega)).mono ?_; rintro e w' ⟨rfl, rfl⟩)
  go_ret
  exact ⟨rfl, Below.refl _ _⟩
set_option maxHeartbeats 400000 in
set_option maxRecDepth 100000 in
theorem split_mid (ao : Option Addr) (len cap : Nat) (o a c : Int) (w : World) (h : 131072 < len) (hm : len ≤ 1048576) :
    Calls Trym.prog 9 #[.slice ao len cap, .int .i64 o, .int .i64 a, .int .i64 c] w fun e w' => e = .returned (.bool true) ∧ Below w.heap.size w w' := by
  go_enter Trym.func9, Trym.ntmps9
  go_wp2_with (go_at_call 25; refine (zzBytes25_ok _ _ _ _ _ _ _ (by omega)).mono ?_; rintro e w' ⟨rfl, rfl⟩)
  go_ret
  exact ⟨rfl, Below.refl _ _⟩
set_option maxHeartbeats 400000 in
set_option maxRecDepth 100000 in
theorem split_empty (ao : Option Addr) (cap : Nat) (o a c : Int) (w : World) :
    Calls Trym.prog 9 #[.slice ao 0 cap, .int .i64 o, .int .i64 a, .int .i64 c] w fun e w' => e = .returned (.bool true) ∧ Below w.heap.size w w' := by
  by_cases c1 : o < 0
  · go_enter Trym.func9, Trym.ntmps9
    go_wp2_with (go_at_call 25; refine (zzBytes25_ok _ _ _ _ _ _ _ (by omega)).mono ?_; rintro e w' ⟨rfl, rfl⟩)
    refine wp_loop_rounds 1 ?_; rw [rounds_succ]
    go_wp2
    go_ret
    exact ⟨rfl, Below.refl _ _⟩
  have d1 : decide (o < 0) = false := by simp; omega
  by_cases c2 : a < 1
  · go_enter Trym.func9, Trym.ntmps9
    go_wp2_with (go_at_call 25; refine (zzBytes25_ok _ _ _ _ _ _ _ (by omega)).mono ?_; rintro e w' ⟨rfl, rfl⟩)
    refine wp_loop_rounds 1 ?_; rw [rounds_succ]
    go_wp2
    go_ret
    exact ⟨rfl, Below.refl _ _⟩
  have d2 : decide (a < 1) = false := by simp; omega
  by_cases c3 : c < 1
  · go_enter Trym.func9, Trym.ntmps9
    go_wp2_with (go_at_call 25; refine (zzBytes25_ok _ _ _ _ _ _ _ (by omega)).mono ?_; rintro e w' ⟨rfl, rfl⟩)
    refine wp_loop_rounds 1 ?_; rw [rounds_succ]
    go_wp2
    go_ret
    exact ⟨rfl, Below.refl _ _⟩
  have d3 : decide (c < 1) = false := by simp; omega
  have d4 : decide (0 < a) = true := by simp; omega
  go_enter Trym.func9, Trym.ntmps9
  go_wp2_with (go_at_call 25; refine (zzBytes25_ok _ _ _ _ _ _ _ (by omega)).mono ?_; rintro e w' ⟨rfl, rfl⟩)
  refine wp_loop_rounds 1 ?_; rw [rounds_succ]
  go_wp2
  go_ret
  exact ⟨rfl, Below.refl _ _⟩
end Go.Proofs.Qxb6601507aMods
