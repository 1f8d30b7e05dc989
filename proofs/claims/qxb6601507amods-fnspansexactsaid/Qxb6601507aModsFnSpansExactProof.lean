/- 'Rows.FnSpansExactSaid' proved: the frame is the given shell's of FnSpansSplit turned to this row (a slice of structs), the walk is typed by the prover of this seat. -/
import Derived.Test.Qxb6601507aModsRows
import Derived.Test.Qxb6601507aModsExactAll
import Derived.WalkKit
import Derived.ProofKit
import Derived.OpenShut
import Derived.ShutString
import Derived.ChangeOld
import Derived.Below
import Derived.Deep.SlicePairs
namespace Go.Proofs.Qxb6601507aMods.fnSpansExact
open Go.ChangeShapes Go.WideShapes Go.ChangeAt Go.RowKit
open Go.ChangeMaps (open_string shut_string)
set_option linter.unusedVariables false

theorem own : ownKnob Trym.prog.godebug = none := by kernel_rfl
theorem laidOut : laidOutB Trym.prog = true := by kernel_rfl

theorem walk (a0 : Option Addr) (len0 cap0 : Nat) (se pl : Nat → Int) (a1 : Int) (a2 : Int) (w : World) (w0 : CameP w a0 len0 se pl) (w1 : (Lit.int .i64 a1).wf = true) (w2 : (Lit.int .i64 a2).wf = true) :
    Calls Trym.prog 8 #[.slice a0 len0 cap0, .int .i64 a1, .int .i64 a2] w fun e w' => e = .returned (.bool true) ∧ Below w.heap.size w w' := by
  have b1 := bounds_i64 w1
  have b2 := bounds_i64 w2
  by_cases h1 : 1048576 < len0
  · exact exact_long _ len0 cap0 a1 a2 w h1
  by_cases h2 : 65536 < len0
  · exact exact_mid _ len0 cap0 a1 a2 w h2 (by omega)
  exact exact_main a0 len0 cap0 se pl a1 a2 w (by omega) w0 b1.1 b1.2 b2.1 b2.2

/-! ### THE ROW's STEP: WRITTEN OUT: LEAVE IT -/
set_option maxRecDepth 100000 in
theorem lifted (os : Os) (started : os.Started) (H : Type) (enc : TypeId × Value → H) :
    ReturnsInHanded {} Trym.checked os 8 .any (Rows.fnSpansExactSpec.pre6 enc Trym.prog Trym.f8 Rows.fnSpansExactRow.domain false) (Rows.fnSpansExactSpec.post enc Trym.prog Trym.f8 false true false false) := by
  refine returnsInHanded_of_change (C := Trym.checked) own started (by kernel_rfl) Trym.func8
    (ChangeSpec.witness6 (enc := enc) (C := Trym.checked) false ⟨#[], #[.slice none 0 0, .int .i64 0, .int .i64 0], []⟩ 8 (by kernel_rfl) (by kernel_rfl) (by kernel_rfl) (by kernel_rfl)) ?_
  intro W base args ds gs before hval0 hW hcnd _
  have hval : ∀ (j : Nat) t v, Trym.f8.params[j]? = some t → args[j]? = some v → Value.okWide Trym.prog W .any base t v := hval0
  have hW' := hW
  obtain ⟨p, q, hA0, hV, rfl, hfz, hnd⟩ := hW
  have hA : DataW.TrodAll enc Trym.prog W 0 (fun _ => true) true Trym.f8.params.toList args.toList ds p := hA0
  rw [Trym.params8] at hA hval
  obtain ⟨v0, vs0, d0, ds0, p0, q0, hargs, rfl, rfl, h0, r0⟩ := trodAll_cons hA
  obtain ⟨v1, vs1, d1, ds1, p1, q1, rfl, rfl, rfl, h1, r1⟩ := trodAll_cons r0
  obtain ⟨v2, vs2, d2, ds2, p2, q2, rfl, rfl, rfl, h2, r2⟩ := trodAll_cons r1
  obtain ⟨rfl, rfl, rfl⟩ := trodAll_nil r2
  obtain rfl : args = #[v0, v1, v2] := by cases args; simp_all
  obtain ⟨rfl, rfl⟩ := trodVars_none hV
  obtain ⟨a0, len0, cap0, rfl⟩ := okWide_slice Trym.underlying34 (hval 0 34 v0 rfl rfl)
  have k0 := h0
  have lt0 : ∀ x ∈ p0, x.block < W.heap.size := by obtain ⟨m, hm⟩ := k0; exact DataW.trod_lt m _ _ _ hm
  obtain ⟨se, pl, w0⟩ : ∃ se pl, CameP W a0 len0 se pl := by
    obtain ⟨fuel, hf⟩ := h0
    rcases Deep.open_slice_pairs Trym.underlying34 Trym.underlying37 (by kernel_rfl) rfl rfl (by kernel_rfl) (by kernel_rfl) hf with ⟨hcs, _⟩ | ⟨a, len, cap, m, n, V0, V1, D0, D1, P0, P1, hcs, _, hl, _, hmm, _, hx⟩
    · simp [Value.cells] at hcs
      obtain ⟨rfl, rfl, rfl⟩ := hcs
      exact ⟨fun _ => 0, fun _ => 0, .inl ⟨rfl, rfl⟩⟩
    · simp [Value.cells] at hcs
      obtain ⟨rfl, rfl, rfl⟩ := hcs
      have hm' : m = cap0 := by simpa using hmm
      subst hm'
      refine ⟨fun i => intOf (V0 i), fun i => intOf (V1 i), .inr ⟨a, rfl, fun i hi => ?_⟩⟩
      obtain ⟨c1, c2, t1, t2⟩ := hx i (by omega)
      obtain ⟨x, e0, _, _⟩ := DataW.trod_int Trym.underlying2 t1
      obtain ⟨y, e1, _, _⟩ := DataW.trod_int Trym.underlying2 t2
      simp at e0 e1
      obtain ⟨b, off, spot⟩ := a
      have h00 := (hx 0 (by omega)).1
      rw [show 0 * 2 = 0 from rfl] at h00
      have hspot : spot = none := by simpa [Addr.add] using World.cell?_spot h00
      subst hspot
      rw [add_plain] at c1 c2
      refine ⟨b, off, rfl, ?_, ?_⟩
      · rw [c1]; show some (V0 i) = some (.int .i64 (intOf (V0 i))); rw [e0]; rfl
      · rw [Nat.add_assoc, c2]; show some (V1 i) = some (.int .i64 (intOf (V1 i))); rw [e1]; rfl
  obtain ⟨a1, rfl, rfl, rfl, w1⟩ := open_int Trym.underlying2 (hval 1 2 v1 rfl rfl) h1
  obtain ⟨a2, rfl, rfl, rfl, w2⟩ := open_int Trym.underlying2 (hval 2 2 v2 rfl rfl) h2
  clear hA0 hval0
  refine (walk a0 len0 cap0 se pl a1 a2 W w0 w1 w2).mono fun e W' ⟨he, bel⟩ => ?_
  subst he
  exact ⟨_, rfl, _, _, _, [], _, [], hW', trodAll_mk1 (shut_bool Trym.underlying4 _), (trodAll_cons_mk (Below.trod laidOut (by kernel_rfl) (of_decide_eq_true (by kernel_rfl)) k0 bel lt0) (trodAll_cons_mk (shut_int Trym.underlying2 w1) (trodAll_cons_mk (shut_int Trym.underlying2 w2) trodAll_mk0))), rfl, bel.frame _, fun h => by cases h⟩

theorem over : Rows.fnSpansExactRow.holds Trym.pinned (OpenSpec.ofChange Rows.fnSpansExactSpec) :=
  OpenClaim.holds_of_wide 8 Trym.f8 rfl rfl rfl rfl rfl rfl rfl ⟨rfl, rfl, rfl, rfl, rfl⟩ rfl rfl rfl rfl rfl (by kernel_rfl) Trym.func8 (by kernel_rfl)
    (of_decide_eq_true (by kernel_rfl)) (by unfold Func.isWrapper; first | (rw [if_pos (by decide +kernel)]; kernel_rfl) | (rw [if_neg (by decide +kernel)]; exact ⟨rfl, rfl⟩))
    (fun os started H enc _ => lifted os started H enc)

/-- ████ THE STATEMENT ████ -/
theorem proved : Rows.FnSpansExactSaid := over
#print axioms proved
end Go.Proofs.Qxb6601507aMods.fnSpansExact
