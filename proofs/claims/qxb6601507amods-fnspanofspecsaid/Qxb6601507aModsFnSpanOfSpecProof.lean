/- 'Rows.FnSpanOfSpecSaid' proved: the frame is the given shell's, the walk is typed by the prover of this seat. -/
import Derived.Test.Qxb6601507aModsRows
import Derived.Test.Qxb6601507aModsBase
import Derived.WalkKit
import Derived.ProofKit
import Derived.OpenShut
import Derived.ShutString
namespace Go.Proofs.Qxb6601507aMods.fnSpanOfSpec
open Go.ChangeShapes Go.WideShapes Go.ChangeAt Go.RowKit
open Go.ChangeMaps (open_string shut_string)
set_option linter.unusedVariables false      -- a walk need not use every 'w<i>' (that an integer argument fits its kind)

theorem own : ownKnob Trym.prog.godebug = none := by kernel_rfl

/-! ### STEP 1: THE WALK: the Go text returns true. 'Grown w w'': the world has at most new blocks (Derived/RowKit3.lean). Part the cases AHEAD of 'go_enter' where a test parts the walk; take each callee by a contract of your own. -/
theorem grown_drewN {W w' : World} {n : Nat} (h : Grown W w') : Grown W (w'.drewN n) := h
theorem grown_span {W w' : World} (h : Grown W w') (a b c d e : Int) : Grown W (w'.alloc (spanObj a b c d e)) := h.alloc _ _

set_option maxHeartbeats 400000 in
theorem zzSpanOf_any (size off ln : Int) (w : World) (h0 : 0 ≤ off) (h1 : 0 ≤ ln) (h2 : off + ln ≤ 9223372036854775807) :
    Calls Trym.prog 17 #[.int .i64 size, .int .i64 off, .int .i64 ln] w fun e w' =>
      e = .returned (.tuple #[.int .i64 size, .int .i64 (off / 65536), .int .i64 (max (off + ln - 1) off / 65536), .int .i64 (off - off / 65536 * 65536), .int .i64 ln]) ∧ Grown w w' := by
  go_enter Trym.func17, Trym.ntmps17
  go_wp2_with (go_at_call 29; refine (spanOf_any _ _ _ _ h0 h1 h2).mono ?_; rintro e w' ⟨rfl, rfl⟩)
  go_quiet (fail)
  go_wp2
  refine bodyPost_ret (v := .tuple #[.int .i64 size, .int .i64 (off / 65536), .int .i64 (max (off + ln - 1) off / 65536), .int .i64 (off - off / 65536 * 65536), .int .i64 ln]) (by simp [results, Trym.results17, go_sem]) rfl ⟨rfl, ?_⟩
  exact grown_drewN ((grown_span (Grown.refl _) _ _ _ _ _).alloc _ _)

set_option maxHeartbeats 400000 in
theorem walk (a0 : Int) (a1 : Int) (a2 : Int) (w0 : (Lit.int .i64 a0).wf = true) (w1 : (Lit.int .i64 a1).wf = true) (w2 : (Lit.int .i64 a2).wf = true) (w : World) :
    Calls Trym.prog 6 #[.int .i64 a0, .int .i64 a1, .int .i64 a2] w fun e w' => e = .returned (.bool true) ∧ Grown w w' := by
  have b1 := bounds_i64 w1
  have b2 := bounds_i64 w2
  clear w0 w1 w2
  by_cases c1 : a1 < 0
  · go_enter Trym.func6, Trym.ntmps6
    go_wp2
    go_ret
    exact ⟨rfl, Grown.refl _⟩
  by_cases c2 : a2 < 0
  · go_enter Trym.func6, Trym.ntmps6
    go_wp2
    go_ret
    exact ⟨rfl, Grown.refl _⟩
  by_cases c3 : 9223372036854775807 - a2 < a1
  · go_enter Trym.func6, Trym.ntmps6
    go_wp2
    go_ret
    exact ⟨rfl, Grown.refl _⟩
  have d1 : decide (a1 < 0) = false := by simp; omega
  have d2 : decide (a2 < 0) = false := by simp; omega
  have d3 : decide (9223372036854775807 - a2 < a1) = false := by simp; omega
  go_enter Trym.func6, Trym.ntmps6
  go_wp2_with (first | (go_at_call 17; refine (zzSpanOf_any _ _ _ _ (by omega) (by omega) (by omega)).mono ?_; rintro e w' ⟨rfl, hg⟩) | (go_at_call 18; refine (blockOK_any _ _ _ _ _ _ (by omega) (by omega) (by omega) rfl rfl rfl).mono ?_; rintro e w' ⟨rfl, rfl⟩))

  go_ret
  exact ⟨rfl, by assumption⟩

/-! ### THE ROW's STEP: WRITTEN OUT: LEAVE IT -/
set_option maxRecDepth 100000 in
theorem lifted (os : Os) (started : os.Started) (H : Type) (enc : TypeId × Value → H) :
    ReturnsInHanded {} Trym.checked os 6 .any (Rows.fnSpanOfSpecSpec.pre6 enc Trym.prog Trym.f6 Rows.fnSpanOfSpecRow.domain false) (Rows.fnSpanOfSpecSpec.post enc Trym.prog Trym.f6 false true false false) := by
  refine returnsInHanded_of_change (C := Trym.checked) own started (by kernel_rfl) Trym.func6
    (ChangeSpec.witness6 (enc := enc) (C := Trym.checked) false ⟨#[], #[.int .i64 0, .int .i64 0, .int .i64 0], []⟩ 8 (by kernel_rfl) (by kernel_rfl) (by kernel_rfl) (by kernel_rfl)) ?_
  intro W base args ds gs before hval0 hW hcnd _
  have hval : ∀ (j : Nat) t v, Trym.f6.params[j]? = some t → args[j]? = some v → Value.okWide Trym.prog W .any base t v := hval0
  have hW' := hW
  obtain ⟨p, q, hA0, hV, rfl, hfz, hnd⟩ := hW
  have hA : DataW.TrodAll enc Trym.prog W 0 (fun _ => true) true Trym.f6.params.toList args.toList ds p := hA0
  rw [Trym.params6] at hA hval
  obtain ⟨v0, vs0, d0, ds0, p0, q0, hargs, rfl, rfl, h0, r0⟩ := trodAll_cons hA
  obtain ⟨v1, vs1, d1, ds1, p1, q1, rfl, rfl, rfl, h1, r1⟩ := trodAll_cons r0
  obtain ⟨v2, vs2, d2, ds2, p2, q2, rfl, rfl, rfl, h2, r2⟩ := trodAll_cons r1
  obtain ⟨rfl, rfl, rfl⟩ := trodAll_nil r2
  obtain rfl : args = #[v0, v1, v2] := by cases args; simp_all
  obtain ⟨rfl, rfl⟩ := trodVars_none hV
  obtain ⟨a0, rfl, rfl, rfl, w0⟩ := open_int Trym.underlying2 (hval 0 2 v0 rfl rfl) h0
  obtain ⟨a1, rfl, rfl, rfl, w1⟩ := open_int Trym.underlying2 (hval 1 2 v1 rfl rfl) h1
  obtain ⟨a2, rfl, rfl, rfl, w2⟩ := open_int Trym.underlying2 (hval 2 2 v2 rfl rfl) h2
  clear hA0 hval0
  simp only [List.append_nil] at hW'
  refine (walk a0 a1 a2 w0 w1 w2 W).mono fun e W' ⟨he, hg⟩ => ?_
  subst he
  exact ⟨_, rfl, post_of_same (pa := []) (pv := []) hW' (fun _ _ _ => (trodAll_cons_mk (shut_bool Trym.underlying4 _) trodAll_mk0)) (fun sp _ => (trodAll_cons_mk (shut_int Trym.underlying2 w0) (trodAll_cons_mk (shut_int Trym.underlying2 w1) (trodAll_cons_mk (shut_int Trym.underlying2 w2) trodAll_mk0)))) (fun _ _ => rfl) rfl
    (hg.frame _) hg.2.1 (ok_one (by kernel_rfl) rfl (okWide_bool_mk Trym.underlying4 _))⟩

theorem over : Rows.fnSpanOfSpecRow.holds Trym.pinned (OpenSpec.ofChange Rows.fnSpanOfSpecSpec) :=
  OpenClaim.holds_of_wide 6 Trym.f6 rfl rfl rfl rfl rfl rfl rfl ⟨rfl, rfl, rfl, rfl, rfl⟩ rfl rfl rfl rfl rfl (by kernel_rfl) Trym.func6 (by kernel_rfl)
    (of_decide_eq_true (by kernel_rfl)) (by unfold Func.isWrapper; first | (rw [if_pos (by decide +kernel)]; kernel_rfl) | (rw [if_neg (by decide +kernel)]; exact ⟨rfl, rfl⟩))
    (fun os started H enc _ => lifted os started H enc)

/-- ████ THE STATEMENT ████ -/
theorem proved : Rows.FnSpanOfSpecSaid :=
  over
#print axioms proved
end Go.Proofs.Qxb6601507aMods.fnSpanOfSpec
