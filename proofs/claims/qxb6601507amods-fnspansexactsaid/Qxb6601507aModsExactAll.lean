import Derived.Test.Qxb6601507aModsExact
namespace Go.Proofs.Qxb6601507aMods
open Go.RowKit Pl
set_option maxHeartbeats 400000 in
set_option maxRecDepth 100000 in
theorem exact_long (ao : Option Addr) (len cap : Nat) (o a : Int) (w : World) (h : 1048576 < len) :
    Calls Trym.prog 8 #[.slice ao len cap, .int .i64 o, .int .i64 a] w fun e w' => e = .returned (.bool true) ∧ Below w.heap.size w w' := by
  go_enter Trym.func8, Trym.ntmps8
  go_wp2_with (go_at_call 20; refine (zzBytes20_no _ _ _ _ _ _ (by omega)).mono ?_; rintro e w' ⟨rfl, rfl⟩)
  go_ret
  exact ⟨rfl, Below.refl _ _⟩
set_option maxHeartbeats 400000 in
set_option maxRecDepth 100000 in
theorem exact_mid (ao : Option Addr) (len cap : Nat) (o a : Int) (w : World) (h : 65536 < len) (hm : len ≤ 1048576) :
    Calls Trym.prog 8 #[.slice ao len cap, .int .i64 o, .int .i64 a] w fun e w' => e = .returned (.bool true) ∧ Below w.heap.size w w' := by
  go_enter Trym.func8, Trym.ntmps8
  go_wp2_with (go_at_call 20; refine (zzBytes20_ok _ _ _ _ _ _ (by omega)).mono ?_; rintro e w' ⟨rfl, rfl⟩)
  go_ret
  exact ⟨rfl, Below.refl _ _⟩
end Go.Proofs.Qxb6601507aMods
