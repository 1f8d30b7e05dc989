/- 'Rows.FnNormalizeMatchesLevelModelSaid' proved: the frame is after the given shells, turned to this row (an array by value), the walk is typed by the prover of this seat. -/
import Derived.Test.Qxb6601911aModsRows
import Derived.Test.Qxb6601911aModsModelMain
import Derived.WalkKit
import Derived.ProofKit
import Derived.OpenShut
import Derived.ShutString
import Derived.ChangeOld
import Derived.Below
namespace Go.Proofs.Qxb6601911aMods.fnNormalizeMatchesLevelModel
open Go.ChangeShapes Go.WideShapes Go.ChangeAt Go.RowKit
open Go.ChangeMaps (open_string shut_string)
set_option linter.unusedVariables false

theorem own : ownKnob Trym.prog.godebug = none := by kernel_rfl
theorem laidOut : laidOutB Trym.prog = true := by kernel_rfl
theorem okWide_array {P : Program} {w : World} {r : Reach} {base : Nat} {t e : TypeId} {n : Nat} {v : Value} (ht : P.underlying t = some (.array n e)) (h : Value.okWide P w r base t v) : ∃ cs : Array Value, v = .agg cs ∧ cs.size = P.cellsOf t := by
  simp only [Value.okWide, ht] at h
  obtain ⟨cs, h1, h2, _⟩ := h
  exact ⟨cs, h1, h2⟩
theorem cells27 : Trym.prog.cellsOf 27 = 53 := by kernel_rfl
theorem cells21 : Trym.prog.cellsOf 21 = 1 := by kernel_rfl
theorem cells38 : Trym.prog.cellsOf 38 = 1 := by kernel_rfl

def IsRow (k : IntKind) (w : World) (a : Option Addr) (len cap : Nat) (zs : List Int) : Prop :=
  (a = none ∧ len = 0 ∧ cap = 0 ∧ zs = []) ∨
  ∃ x, a = some x ∧ len ≤ cap ∧ cap ≤ maxLen ∧ zs.length = cap ∧ (∀ i, i < zs.length → w.cell? (x.add i) = some (.int k (zs.getD i 0))) ∧ ∀ n ∈ zs, (Lit.int k n).wf = true
theorem came_of {w : World} {a : Option Addr} {len cap : Nat} {zs : List Int} (h : IsRow .u32 w a len cap zs) : CameH w a len cap (fun i => zs.getD i 0) := by
  rcases h with ⟨rfl, rfl, rfl, rfl⟩ | ⟨x, rfl, hl, hm, hz, hcell, _⟩
  · exact .inl ⟨rfl, rfl, rfl⟩
  · refine .inr ⟨x, rfl, fun i hi => ?_⟩
    obtain ⟨b, off, spot⟩ := x
    have hspot : spot = none := by simpa [Addr.add] using World.cell?_spot (hcell 0 (by omega))
    subst hspot
    exact ⟨b, off, rfl, by rw [← add_plain]; exact hcell i (by omega)⟩
theorem len_of {w : World} {a : Option Addr} {len cap : Nat} {zs : List Int} (h : IsRow .u32 w a len cap zs) : len ≤ 9223372036854775807 ∧ ∀ i, i < len → 0 ≤ zs.getD i 0 ∧ zs.getD i 0 ≤ 4294967295 := by
  rcases h with ⟨rfl, rfl, rfl, rfl⟩ | ⟨x, rfl, hl, hm, hz, hcell, hw⟩
  · exact ⟨by omega, fun i hi => absurd hi (by omega)⟩
  · unfold maxLen at hm
    refine ⟨by omega, fun i hi => ?_⟩
    have hi' : i < zs.length := by omega
    rw [List.getD_eq_getElem?_getD, List.getElem?_eq_getElem hi']
    have := bounds_u32 (hw zs[i] (List.getElem_mem hi'))
    simp
    omega
/-- an array of shares, by value, is 'arr a' -/
theorem arr_of {H : Type} {enc : TypeId × Value → H} {W : World} {cs : Array Value} {d : DataW H} {p : List MemPlace} (hs : cs.size = 53) (h : DataW.Trod enc Trym.prog W 0 (fun _ => true) true 27 (.agg cs) d p) : ∃ a : Nat → Int, cs = arr a ∧ ∀ i, i < 53 → (Lit.int .i32 (a i)).wf = true := by
  obtain ⟨fuel, hf⟩ := h
  obtain ⟨xs, m, _, _, _, hl, hel⟩ := DataW.trod_array Trym.underlying27 hf
  have each : ∀ i, (hi : i < 53) → ∃ z : Int, cs[i]'(by omega) = .int .i32 z ∧ (Lit.int .i32 z).wf = true := by
    intro i hi
    have h1 := hel i hi
    rw [cells21, Nat.mul_one, List.getElem?_eq_getElem (by omega)] at h1
    obtain ⟨z, e0, _, wz⟩ := DataW.trod_int Trym.underlying21 h1
    have hlt : i < cs.toList.length := by simp; omega
    simp only [Value.cells] at e0
    rw [List.drop_eq_getElem_cons hlt] at e0
    simp at e0
    exact ⟨z, e0, wz⟩
  refine ⟨fun i => intOf (cs.getD i undef), ?_, fun i hi => ?_⟩
  · apply Array.ext
    · rw [hs, arr_size]
    · intro i h1 h2
      obtain ⟨z, hz, _⟩ := each i (by omega)
      have h3 := arr_at (fun i => intOf (cs.getD i undef)) i (by omega)
      rw [Array.getElem?_eq_getElem h2] at h3
      have h4 := Option.some.inj h3
      rw [h4, hz]
      simp [Array.getD_eq_getD_getElem?, Array.getElem?_eq_getElem h1, hz, intOf]
  · obtain ⟨z, hz, wz⟩ := each i hi
    have h1 : i < cs.size := by omega
    simp [Array.getD_eq_getD_getElem?, Array.getElem?_eq_getElem h1, hz, intOf]
    exact wz

theorem walk (L : Int) (a : Nat → Int) (a2 : Option Addr) (len2 cap2 : Nat) (z2 : List Int) (a3 : Int) (w : World) (w0 : (Lit.int .u64 L).wf = true) (wa : ∀ i, i < 53 → (Lit.int .i32 (a i)).wf = true) (w2 : IsRow .u32 w a2 len2 cap2 z2) (w3 : (Lit.int .i64 a3).wf = true) :
    Calls Trym.prog 4 #[.int .u64 L, .agg (arr a), .slice a2 len2 cap2, .int .i64 a3] w fun e w' => e = .returned (.bool true) ∧ Below w.heap.size w w' := by
  have b0 := bounds_u64 w0
  have b3 := bounds_i64 w3
  have l2 := len_of w2
  by_cases h1 : 1048576 < len2
  · exact model_long L a a2 len2 cap2 a3 w h1
  by_cases h2 : 262144 < len2
  · exact model_mid L a a2 len2 cap2 a3 w h2 (by omega)
  exact model_main L a a2 len2 cap2 a3 _ w (by omega) b0.1 (came_of w2) l2.2 b3.1 b3.2

set_option maxRecDepth 100000 in
theorem lifted (os : Os) (started : os.Started) (H : Type) (enc : TypeId × Value → H) :
    ReturnsInHanded {} Trym.checked os 4 .any (Rows.fnNormalizeMatchesLevelModelSpec.pre6 enc Trym.prog Trym.f4 Rows.fnNormalizeMatchesLevelModelRow.domain false) (Rows.fnNormalizeMatchesLevelModelSpec.post enc Trym.prog Trym.f4 false true false false) := by
  refine returnsInHanded_of_change (C := Trym.checked) own started (by kernel_rfl) Trym.func4
    (ChangeSpec.witness6 (enc := enc) (C := Trym.checked) false ⟨#[], #[.int .u64 0, .agg #[.int .i32 0, .int .i32 0, .int .i32 0, .int .i32 0, .int .i32 0, .int .i32 0, .int .i32 0, .int .i32 0, .int .i32 0, .int .i32 0, .int .i32 0, .int .i32 0, .int .i32 0, .int .i32 0, .int .i32 0, .int .i32 0, .int .i32 0, .int .i32 0, .int .i32 0, .int .i32 0, .int .i32 0, .int .i32 0, .int .i32 0, .int .i32 0, .int .i32 0, .int .i32 0, .int .i32 0, .int .i32 0, .int .i32 0, .int .i32 0, .int .i32 0, .int .i32 0, .int .i32 0, .int .i32 0, .int .i32 0, .int .i32 0, .int .i32 0, .int .i32 0, .int .i32 0, .int .i32 0, .int .i32 0, .int .i32 0, .int .i32 0, .int .i32 0, .int .i32 0, .int .i32 0, .int .i32 0, .int .i32 0, .int .i32 0, .int .i32 0, .int .i32 0, .int .i32 0, .int .i32 0], .slice none 0 0, .int .i64 0], []⟩ 8 (by kernel_rfl) (by kernel_rfl) (by kernel_rfl) (by kernel_rfl)) ?_
  intro W base args ds gs before hval0 hW hcnd _
  have hval : ∀ (j : Nat) t v, Trym.f4.params[j]? = some t → args[j]? = some v → Value.okWide Trym.prog W .any base t v := hval0
  have hW' := hW
  obtain ⟨p, q, hA0, hV, rfl, hfz, hnd⟩ := hW
  have hA : DataW.TrodAll enc Trym.prog W 0 (fun _ => true) true Trym.f4.params.toList args.toList ds p := hA0
  rw [Trym.params4] at hA hval
  obtain ⟨v0, vs0, d0, ds0, p0, q0, hargs, rfl, rfl, h0, r0⟩ := trodAll_cons hA
  obtain ⟨v1, vs1, d1, ds1, p1, q1, rfl, rfl, rfl, h1, r1⟩ := trodAll_cons r0
  obtain ⟨v2, vs2, d2, ds2, p2, q2, rfl, rfl, rfl, h2, r2⟩ := trodAll_cons r1
  obtain ⟨v3, vs3, d3, ds3, p3, q3, rfl, rfl, rfl, h3, r3⟩ := trodAll_cons r2
  obtain ⟨rfl, rfl, rfl⟩ := trodAll_nil r3
  obtain rfl : args = #[v0, v1, v2, v3] := by cases args; simp_all
  obtain ⟨rfl, rfl⟩ := trodVars_none hV
  obtain ⟨a0, rfl, rfl, rfl, w0⟩ := open_int Trym.underlying26 (hval 0 26 v0 rfl rfl) h0
  obtain ⟨cs, rfl, hcs53⟩ := okWide_array Trym.underlying27 (hval 1 27 v1 rfl rfl)
  rw [cells27] at hcs53
  have k1 := h1
  have lt1 : ∀ x ∈ p1, x.block < W.heap.size := by obtain ⟨m, hm⟩ := k1; exact DataW.trod_lt m _ _ _ hm
  obtain ⟨a1, ha1, wa1⟩ := arr_of hcs53 h1
  obtain ⟨a2, len2, cap2, rfl⟩ := okWide_slice Trym.underlying28 (hval 2 28 v2 rfl rfl)
  have k2 := h2
  have lt2 : ∀ x ∈ p2, x.block < W.heap.size := by obtain ⟨m, hm⟩ := k2; exact DataW.trod_lt m _ _ _ hm
  obtain ⟨z2, w2⟩ : ∃ zs, IsRow .u32 W a2 len2 cap2 zs := by
    obtain ⟨fuel, hf⟩ := h2
    rcases open_ints Trym.underlying28 Trym.underlying38 (by kernel_rfl) hf with ⟨hcs, _⟩ | ⟨x, l, c, zs, hcs, _, hl, hm, hz, _, hcell, hwz⟩
    · simp [Value.cells] at hcs
      obtain ⟨rfl, rfl, rfl⟩ := hcs
      exact ⟨[], .inl ⟨rfl, rfl, rfl, rfl⟩⟩
    · simp [Value.cells] at hcs
      obtain ⟨rfl, rfl, rfl⟩ := hcs
      exact ⟨zs, .inr ⟨_, rfl, hl, hm, by simpa using hz, hcell, hwz⟩⟩
  obtain ⟨a3, rfl, rfl, rfl, w3⟩ := open_int Trym.underlying3 (hval 3 3 v3 rfl rfl) h3
  clear hA0 hval0
  subst ha1
  refine (walk a0 a1 a2 len2 cap2 z2 a3 W w0 wa1 w2 w3).mono fun e W' ⟨he, bel⟩ => ?_
  subst he
  exact ⟨_, rfl, _, _, _, [], _, [], hW', trodAll_mk1 (shut_bool Trym.underlying4 _), (trodAll_cons_mk (shut_int Trym.underlying26 w0) (trodAll_cons_mk (Below.trod laidOut (by kernel_rfl) (of_decide_eq_true (by kernel_rfl)) k1 bel lt1) (trodAll_cons_mk (Below.trod laidOut (by kernel_rfl) (of_decide_eq_true (by kernel_rfl)) k2 bel lt2) (trodAll_cons_mk (shut_int Trym.underlying3 w3) trodAll_mk0)))), rfl, bel.frame _, fun h => by cases h⟩

theorem over : Rows.fnNormalizeMatchesLevelModelRow.holds Trym.pinned (OpenSpec.ofChange Rows.fnNormalizeMatchesLevelModelSpec) :=
  OpenClaim.holds_of_wide 4 Trym.f4 rfl rfl rfl rfl rfl rfl rfl ⟨rfl, rfl, rfl, rfl, rfl⟩ rfl rfl rfl rfl rfl (by kernel_rfl) Trym.func4 (by kernel_rfl)
    (of_decide_eq_true (by kernel_rfl)) (by unfold Func.isWrapper; first | (rw [if_pos (by decide +kernel)]; kernel_rfl) | (rw [if_neg (by decide +kernel)]; exact ⟨rfl, rfl⟩))
    (fun os started H enc _ => lifted os started H enc)

/-- THE STATEMENT -/
theorem proved : Rows.FnNormalizeMatchesLevelModelSaid := over
#print axioms proved
end Go.Proofs.Qxb6601911aMods.fnNormalizeMatchesLevelModel
