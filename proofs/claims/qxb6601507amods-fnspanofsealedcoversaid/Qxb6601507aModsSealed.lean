import Derived.Test.Qxb6601507aModsBase
import Derived.Deep.RegionWith
import Derived.Deep.DrawnRows
import Derived.OpenShut
namespace Go.Proofs.Qxb6601507aMods
open Go.RowKit
attribute [local go_sem ↓] Go.wp_at_zero Go.wp_at_succ

theorem grown_drewN {W w' : World} {n : Nat} (h : Grown W w') : Grown W (w'.drewN n) := h
theorem grown_span {W w' : World} (h : Grown W w') (a b c d e : Int) : Grown W (w'.alloc (spanObj a b c d e)) := h.alloc _ _

set_option maxHeartbeats 400000 in
theorem zzSealed_any (size off ln : Int) (w : World) (h0 : 0 ≤ off) (h1 : 0 ≤ ln) (h2 : off + ln ≤ 9223372036854775807) 
   (hf : off / 65536 ≤ 140703137003519) (hl : max (off + ln - 1) off / 65536 ≤ 140703137003519) :
    Calls Trym.prog 19 #[.int .i64 size, .int .i64 off, .int .i64 ln] w fun e w' =>
      e = .returned (.tuple #[.int .i64 (off / 65536 * 65552), .int .i64 (min ((max (off + ln - 1) off / 65536 + 1) * 65552) size)]) ∧ Grown w w' := by
  go_enter Trym.func19, Trym.ntmps19
  go_wp2_with (go_at_call 29; refine (spanOf_any _ _ _ _ h0 h1 h2).mono ?_; rintro e w' ⟨rfl, rfl⟩)
  go_region_with (first | (go_at_call 30; refine (sealedStart_any _ _ _ _ _ _ (by omega) (by omega)).mono ?_; rintro e w' ⟨rfl, rfl⟩) | (go_at_call 31; refine (sealedEnd_any _ _ _ _ _ _ (by omega) (by omega)).mono ?_; rintro e w' ⟨rfl, rfl⟩))
  all_goals go_wp2
  all_goals go_ret2
  all_goals refine ⟨rfl, ?_⟩
  all_goals repeat (first | exact Grown.refl _ | apply Grown.drew | apply grown_span | apply Grown.alloc)
end Go.Proofs.Qxb6601507aMods
