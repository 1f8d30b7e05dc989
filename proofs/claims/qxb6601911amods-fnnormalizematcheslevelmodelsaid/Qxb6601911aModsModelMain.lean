import Derived.ChangeKeysEq
import Derived.Deep.RegionHeld3
import Derived.Test.Qxb6601911aModsModelWalk
namespace Go.Proofs.Qxb6601911aMods
open Go.RowKit Nm

/-- equal arrays, item by item -/
theorem eqItems_same (d : Nat) (g : Nat → Int) (w : World) : ∀ is : List Nat, (∀ i ∈ is, i < 53) → (Op.eqItems (d + 1) 21 (Trym.prog.cellsOf 21) (arr g) (arr g) is).run Trym.prog w = .ok true w
  | [], _ => by simp [Op.eqItems]
  | i :: is, h => by
    have c1 : Trym.prog.cellsOf 21 = 1 := by kernel_rfl
    have hp : (part 21 (arr g) (i * 1)).run Trym.prog w = .ok (.int .i32 (g i)) w := by
      have h1 := arr_at g i (h i (by simp))
      simp [part, h1, go_sem]
    have hq := run_equalIn_int (P := Trym.prog) w d 21 .i32 .i32 (g i) (g i) Trym.underlying21
    have ih := eqItems_same d g w is (fun j hj => h j (by simp [hj]))
    rw [c1] at ih ⊢
    simp only [Op.eqItems, Sem.run_bind, hp, hq, Result.andThen_ok]
    simpa using ih
theorem eqIn27 (g : Nat → Int) (w : World) : (Op.equalIn 10000 27 (.agg (arr g)) (.agg (arr g))).run Trym.prog w = .ok true w := by
  have i21 : ∃ i, Trym.prog.info? 21 = some i := Option.isSome_iff_exists.1 (by kernel_rfl)
  obtain ⟨i, hi⟩ := i21
  rw [show (10000 : Nat) = 9998 + 1 + 1 from rfl, run_equalIn_array w (9998 + 1) (arr g) (arr g) Trym.underlying27 hi, eqItems_same 9998 g w (List.range 53) (fun i h => by simpa using h)]
theorem store27 (w : World) (c : Array Value) (g : Nat → Int) (hc : 53 ≤ c.size) :
    ((w.alloc (.cells c 27)).setCells w.heap.size 0 (arr g).toList).rangeAt w.heap.size 0 (arr g).toList ∧ Below w.heap.size w ((w.alloc (.cells c 27)).setCells w.heap.size 0 (arr g).toList) ∧
    w.heap.size < ((w.alloc (.cells c 27)).setCells w.heap.size 0 (arr g).toList).heap.size := by
  have h1 := World.rangeAt_setCells_same (w.alloc (.cells c 27)) w.heap.size 0 (arr g).toList (there_new w c 27 _ (by simpa [arr_size] using hc))
  refine ⟨h1, below_setCells (Nat.le_refl _) _ _ _ (bel_alloc (Below.refl _ _) _), ?_⟩
  have h2 := h1 0 (.int .i32 (g 0)) (by rw [Array.getElem?_toList]; exact arr_at g 0 (by omega))
  exact World.block_lt_of_cell? _ _ h2
theorem zzBytes11_ok (L : Int) (a : Nat → Int) (ao : Option Addr) (len cap : Nat) (tot : Int) (w : World) (h : len ≤ 1048576) :
    Calls Trym.prog 11 #[.int .u64 L, .agg (arr a), .slice ao len cap, .int .i64 tot] w fun e w' => e = .returned (.bool true) ∧ w' = w.alloc (.cells (arr a) 27) := by
  go_enter Trym.func11, Trym.ntmps11
  go_wp2
  go_ret
  exact ⟨rfl, rfl⟩
theorem zzBytes11_no (L : Int) (a : Nat → Int) (ao : Option Addr) (len cap : Nat) (tot : Int) (w : World) (h : 1048576 < len) :
    Calls Trym.prog 11 #[.int .u64 L, .agg (arr a), .slice ao len cap, .int .i64 tot] w fun e w' => e = .returned (.bool false) ∧ w' = w.alloc (.cells (arr a) 27) := by
  go_enter Trym.func11, Trym.ntmps11
  go_wp2
  go_ret
  exact ⟨rfl, rfl⟩

set_option maxHeartbeats 400000 in
set_option maxRecDepth 100000 in
theorem model_long (L : Int) (a : Nat → Int) (ao : Option Addr) (n cap : Nat) (tot : Int) (w : World) (h : 1048576 < n) :
    Calls Trym.prog 4 #[.int .u64 L, .agg (arr a), .slice ao n cap, .int .i64 tot] w fun e w' => e = .returned (.bool true) ∧ Below w.heap.size w w' := by
  go_enter Trym.func4, Trym.ntmps4
  go_wp2_with (first | (refine wpList_load_row rfl 27 _ rfl w.heap.size rfl 27 (arr a) (0, 0) _ (heap_alloc_new _ _) Trym.underlying27 rfl arr_info ?_) | (go_at_call 11; refine (zzBytes11_no _ _ _ _ _ _ _ (by omega)).mono ?_; rintro e w' ⟨rfl, rfl⟩))
  go_ret
  exact ⟨rfl, bel_alloc (bel_alloc (Below.refl _ _) _) _⟩
set_option maxHeartbeats 400000 in
set_option maxRecDepth 100000 in
theorem model_mid (L : Int) (a : Nat → Int) (ao : Option Addr) (n cap : Nat) (tot : Int) (w : World) (h : 262144 < n) (h2 : n ≤ 1048576) :
    Calls Trym.prog 4 #[.int .u64 L, .agg (arr a), .slice ao n cap, .int .i64 tot] w fun e w' => e = .returned (.bool true) ∧ Below w.heap.size w w' := by
  go_enter Trym.func4, Trym.ntmps4
  go_wp2_with (first | (refine wpList_load_row rfl 27 _ rfl w.heap.size rfl 27 (arr a) (0, 0) _ (heap_alloc_new _ _) Trym.underlying27 rfl arr_info ?_) | (go_at_call 11; refine (zzBytes11_ok _ _ _ _ _ _ _ (by omega)).mono ?_; rintro e w' ⟨rfl, rfl⟩))
  go_ret
  exact ⟨rfl, bel_alloc (bel_alloc (Below.refl _ _) _) _⟩

set_option maxHeartbeats 2000000 in
set_option maxRecDepth 100000 in
theorem model_main (L : Int) (a : Nat → Int) (ao : Option Addr) (n cap : Nat) (tot : Int) (h : Nat → Int) (w : World) (hn : n ≤ 262144) (h0 : 0 ≤ L) (hc : CameH w ao n cap h) (hh : ∀ i, i < n → 0 ≤ h i ∧ h i ≤ 4294967295) (t1 : -9223372036854775808 ≤ tot) (t2 : tot ≤ 9223372036854775807) :
    Calls Trym.prog 4 #[.int .u64 L, .agg (arr a), .slice ao n cap, .int .i64 tot] w fun e w' => e = .returned (.bool true) ∧ Below w.heap.size w w' := by
  have HC := hd hc
  have HH := hd hh
  clear hc hh
  go_enter Trym.func4, Trym.ntmps4
  go_wp2_with (first | (refine wpList_load_row rfl 27 _ rfl w.heap.size rfl 27 (arr a) (0, 0) _ (heap_alloc_new _ _) Trym.underlying27 rfl arr_info ?_) | (go_at_call 11; refine (zzBytes11_ok _ _ _ _ _ _ _ (by omega)).mono ?_; rintro e w' ⟨rfl, rfl⟩))
  have B1 : Hid (Below w.heap.size w ((w.alloc (.cells (arr a) 27)).alloc (.cells (arr a) 27))) := bel_alloc (bel_alloc (Below.refl _ _) _) _
  have G1 : Hid (((w.alloc (.cells (arr a) 27)).alloc (.cells (arr a) 27)).heap[w.heap.size]? = some (.cells (arr a) 27 (0, 0))) := by
    exact (Below.heap_alloc _ _ _ (by simp)).trans (heap_alloc_new _ _)
  have S1 : w.heap.size < ((w.alloc (.cells (arr a) 27)).alloc (.cells (arr a) 27)).heap.size := by simp; omega
  generalize ((w.alloc (.cells (arr a) 27)).alloc (.cells (arr a) 27)) = W1 at B1 G1 S1 ⊢
  refine (dom12 L ao n cap tot h W1 h0 (by omega) (HC.out.below B1.out) HH.out t1 t2).mono ?_
  rintro e w' ⟨rfl, rfl⟩
  cases hdm : inDom L n tot h with
  | false =>
    clear hdm
    go_wp2
    go_ret
    exact ⟨rfl, B1.out⟩
  | true =>
    have dm := of_decide_eq_true hdm
    clear hdm
    obtain ⟨d1, d2, d3, d4, d5⟩ := dm
    have pb := pow_bd (L := L) (by omega)
    have D : Dom (2 ^ L.toNat) tot h n := ⟨d4, pb.1, fun i hi => (HH.out i hi).1, d5, d3⟩
    have HD := hd D
    have hnp := D.npos
    have hwr : wrap64 (2 ^ L.toNat) = 2 ^ L.toNat := IntWalk.wrap64_in _ ⟨by omega, by omega⟩
    have HW := hd hwr
    clear d5 d3 D pb hwr
    obtain ⟨x, hx, hcc⟩ : ∃ x, ao = some x ∧ ∀ i, i < n → ∃ b off, x = ⟨b, off, none⟩ ∧ W1.cell? ⟨b, off + i, none⟩ = some (.int .u32 (h i)) := by
      rcases HC.out.below B1.out with ⟨_, h9, _⟩ | h9
      · omega
      · exact h9
    subst hx
    have HX := hd hcc
    clear hcc
    go_wp2_with fail
    refine (clone13 x n cap h W1 (by omega) HX.out).mono ?_
    rintro e w3 ⟨rfl, r3, b3⟩
    have R3 := hd r3
    have B3 : Hid (Below w.heap.size w w3) := B1.out.trans (b3.mono B1.out.size)
    have G3 : Hid (w3.heap[w.heap.size]? = some (.cells (arr a) 27 (0, 0))) := (b3.block _ (by omega)).trans G1.out
    have z3 : W1.heap.size < w3.heap.size := r3.lt
    clear r3 b3 B1 G1 HX
    go_wp2_with (refine wpList_load_row rfl 27 _ rfl w.heap.size rfl 27 (arr a) (0, 0) _ G3.out Trym.underlying27 rfl arr_info ?_)
    refine (enc14 L a w3).mono ?_
    rintro e w4 ⟨rfl, hw4⟩
    have E4 := hd (enc_at w3 L a)
    rw [← hw4] at E4
    have b4 : Below w3.heap.size w3 w4 := by rw [hw4]; exact bel_alloc (bel_alloc (Below.refl _ _) _) _
    have B4 : Hid (Below w.heap.size w w4) := B3.out.trans (b4.mono B3.out.size)
    have C4 : Hid (∀ i, i < n → w4.cell? ⟨W1.heap.size, i, none⟩ = some (.int .u32 (h i))) := fun i hi => (b4.cell z3).trans (R3.out.cell hi)
    have G4 : Hid (w4.heap[w.heap.size]? = some (.cells (arr a) 27 (0, 0))) := (b4.block _ (by omega)).trans G3.out
    clear hw4 b4 R3 B3 G3
    go_wp2_with fail
    refine (norm15 (w3.heap.size + 1) W1.heap.size n L tot h a w4 E4.out (by omega) C4.out h0 d2 d1 HD.out (fun i hi => (HH.out i hi).2) t2).mono ?_
    rintro e w5 ⟨rfl, e5, b5⟩
    have E5 := hd e5
    have B5 : Hid (Below w.heap.size w w5) := B4.out.trans (b5.mono (by omega))
    have C5 : Hid (∀ i, i < n → w5.cell? ⟨W1.heap.size, i, none⟩ = some (.int .u32 (h i))) := fun i hi => (b5.cell (by show W1.heap.size < _; omega)).trans (C4.out i hi)
    have G5 : Hid (w5.heap[w.heap.size]? = some (.cells (arr a) 27 (0, 0))) := (b5.block _ (by omega)).trans G4.out
    have z5 : w3.heap.size + 1 < w5.heap.size := e5.lt
    clear e5 b5 E4 B4 C4 G4
    obtain ⟨f, hf⟩ : ∃ f, f = normOf (2 ^ L.toNat) tot h n := ⟨_, rfl⟩
    rw [← hf] at E5
    have HF := hd hf
    clear hf
    go_wp2_with fail
    refine (get16 (w3.heap.size + 1) L (mix n f a) w5 E5.out).mono ?_
    rintro e w6 ⟨rfl, b6⟩
    have B6 : Hid (Below w.heap.size w w6) := B5.out.trans (b6.mono B5.out.size)
    have C6 : Hid (∀ i, i < n → w6.cell? ⟨W1.heap.size, i, none⟩ = some (.int .u32 (h i))) := fun i hi => (b6.cell (by show W1.heap.size < _; omega)).trans (C5.out i hi)
    have G6 : Hid (w6.heap[w.heap.size]? = some (.cells (arr a) 27 (0, 0))) := (b6.block _ (by omega)).trans G5.out
    have z6 := b6.size
    clear b6 B5 C5 G5 E5
    go_wp2_with (refine wpList_store_mid rfl 27 _ _ rfl w6.heap.size 0 (arr (mix n f a)) rfl rfl (there_new _ _ _ _ (Nat.le_refl 53)) arr_info (arr_one _) ?_)
    have H7 := hd (store27 w6 #[.int .i32 0, .int .i32 0, .int .i32 0, .int .i32 0, .int .i32 0, .int .i32 0, .int .i32 0, .int .i32 0, .int .i32 0, .int .i32 0, .int .i32 0, .int .i32 0, .int .i32 0, .int .i32 0, .int .i32 0, .int .i32 0, .int .i32 0, .int .i32 0, .int .i32 0, .int .i32 0, .int .i32 0, .int .i32 0, .int .i32 0, .int .i32 0, .int .i32 0, .int .i32 0, .int .i32 0, .int .i32 0, .int .i32 0, .int .i32 0, .int .i32 0, .int .i32 0, .int .i32 0, .int .i32 0, .int .i32 0, .int .i32 0, .int .i32 0, .int .i32 0, .int .i32 0, .int .i32 0, .int .i32 0, .int .i32 0, .int .i32 0, .int .i32 0, .int .i32 0, .int .i32 0, .int .i32 0, .int .i32 0, .int .i32 0, .int .i32 0, .int .i32 0, .int .i32 0, .int .i32 0] (mix n f a) (Nat.le_refl 53))
    generalize ((w6.alloc (.cells #[.int .i32 0, .int .i32 0, .int .i32 0, .int .i32 0, .int .i32 0, .int .i32 0, .int .i32 0, .int .i32 0, .int .i32 0, .int .i32 0, .int .i32 0, .int .i32 0, .int .i32 0, .int .i32 0, .int .i32 0, .int .i32 0, .int .i32 0, .int .i32 0, .int .i32 0, .int .i32 0, .int .i32 0, .int .i32 0, .int .i32 0, .int .i32 0, .int .i32 0, .int .i32 0, .int .i32 0, .int .i32 0, .int .i32 0, .int .i32 0, .int .i32 0, .int .i32 0, .int .i32 0, .int .i32 0, .int .i32 0, .int .i32 0, .int .i32 0, .int .i32 0, .int .i32 0, .int .i32 0, .int .i32 0, .int .i32 0, .int .i32 0, .int .i32 0, .int .i32 0, .int .i32 0, .int .i32 0, .int .i32 0, .int .i32 0, .int .i32 0, .int .i32 0, .int .i32 0, .int .i32 0] 27)).setCells w6.heap.size 0 (arr (mix n f a)).toList) = W7 at H7 ⊢
    obtain ⟨r7, b7, z7⟩ := H7.out
    have SOK : Hid (∀ W, Below W7.heap.size W7 W → W.rangeAt w6.heap.size 0 (arr (mix n f a)).toList ∧ W.rangeAt w.heap.size 0 (arr a).toList) := fun W hW => by
      refine ⟨fun i v hv => (hW.cell z7).trans (r7 i v hv), fun i v hv => ?_⟩
      have hi : i < 53 := by have := (List.getElem?_eq_some_iff.1 hv).1; simpa [arr_size] using this
      rw [Array.getElem?_toList, arr_at _ i hi] at hv
      cases hv
      have g7 : W7.heap[w.heap.size]? = some (.cells (arr a) 27 (0, 0)) := (b7.block _ (by omega)).trans G6.out
      rw [Nat.zero_add, hW.cell (by show w.heap.size < _; omega), cell_of_row W7 w.heap.size i (arr a) 27 (0, 0) g7]
      exact arr_at a i hi
    have C7 : Hid (∀ W, Below W7.heap.size W7 W → ∀ i, i < n → W.cell? ⟨W1.heap.size, i, none⟩ = some (.int .u32 (h i))) := fun W hW i hi => (hW.cell (by show W1.heap.size < _; omega)).trans ((b7.cell (by show W1.heap.size < _; omega)).trans (C6.out i hi))
    have B7 : Hid (Below w.heap.size w W7) := B6.out.trans (b7.mono B6.out.size)
    have z1 : W1.heap.size < W7.heap.size := by omega
    have zw : w.heap.size ≤ W7.heap.size := by omega
    have tb : tot ≤ 300000000000 := by
      have q1 := psum_le_card h 4294967295 n (fun i hi => (HH.out i hi).2)
      have q2 := HD.out.sum
      omega
    have hd0 : Hid (Below W7.heap.size W7 W7.drew) := below_drewN (Below.refl _ _) 1
    have u27 := Trym.underlying27
    have i1 : (Trym.prog.info? 27).map (·.size) = some (arr (mix n f a)).toList.length := arr_info
    have i2 : (Trym.prog.info? 27).map (·.size) = some (arr a).toList.length := arr_info
    have q27 := eqIn27 (mix n f a)
    have M17 : Hid (∀ W, Below W7.heap.size W7 W → Calls Trym.prog 17 #[.int .u64 L, .agg (arr a), .slice (some ⟨W1.heap.size, 0, none⟩) n n, .int .u64 tot] W fun e w' => e = .returned (.agg (arr (mix n f a))) ∧ Below W7.heap.size W7 w') := fun W hW => by
      refine (model17 L tot a h n W1.heap.size W (C7.out W hW) (by have := hW.size; omega) h0 d2 d1 HD.out (fun i hi => (HH.out i hi).2) tb).mono ?_
      rintro e w' ⟨rfl, hb⟩
      exact ⟨by rw [HF.out], hW.trans (hb.mono hW.size)⟩
    have wu : IntKind.u64.wrap tot = tot := IntWalk.u64_in tot ⟨by omega, by omega⟩
    clear H7 r7 b7 C6 G6 B6 HC HH HD HF HW C7 tb
    refine wp_region_held_drew (S := fun W => W.rangeAt w6.heap.size 0 (arr (mix n f a)).toList ∧ W.rangeAt w.heap.size 0 (arr a).toList) (by kernel_rfl) (SOK.out _ hd0.out) (fun hHeld => ?_)
    dsimp only [Act.put]
    refine wpAnyH_take (i := 0) (oi := { dst := some 36, op := .load 27 (.tmp 10), type := 27, pos := "laws_root_b1.go:214", after := #[], guard := none }) (v := .agg (arr (mix n f a)).toList.toArray) rfl (by kernel_rfl) (by kernel_rfl) (by kernel_rfl) (fun _ _ _ h => h) (yieldsIf_load_mid (by rfl) 27 (.tmp 10) rfl w6.heap.size 0 rfl (arr (mix n f a)).toList _ (fun W hW => hW.1) Trym.underlying27 rfl arr_info) hHeld ?_
    try simp only [Act.put, List.setIfInBounds_toArray, List.set_cons_zero, List.set_cons_succ]
    refine wpAnyH_take (i := 1) (oi := { dst := some 37, op := .move (.tmp 0), type := 26, pos := "laws_root_b1.go:214", after := #[], guard := none }) (v := .int .u64 L) rfl (by kernel_rfl) (by kernel_rfl) (by kernel_rfl) (fun _ _ _ h => h) (Or.inl ⟨by rfl, by intro W hSw; go_simp⟩) hHeld ?_
    try simp only [Act.put, List.setIfInBounds_toArray, List.set_cons_zero, List.set_cons_succ]
    refine wpAnyH_take (i := 2) (oi := { dst := some 38, op := .load 27 (.tmp 5), type := 27, pos := "laws_root_b1.go:214", after := #[], guard := none }) (v := .agg (arr a).toList.toArray) rfl (by kernel_rfl) (by kernel_rfl) (by kernel_rfl) (fun _ _ _ h => h) (yieldsIf_load_mid (by rfl) 27 (.tmp 5) rfl w.heap.size 0 rfl (arr a).toList _ (fun W hW => hW.2) Trym.underlying27 rfl arr_info) hHeld ?_
    try simp only [Act.put, List.setIfInBounds_toArray, List.set_cons_zero, List.set_cons_succ]
    refine wpAnyH_take (i := 3) (oi := { dst := some 39, op := .move (.tmp 2), type := 28, pos := "laws_root_b1.go:214", after := #[], guard := none }) (v := .slice (some ⟨W1.heap.size, 0, none⟩) n n) rfl (by kernel_rfl) (by kernel_rfl) (by kernel_rfl) (fun _ _ _ h => h) (Or.inl ⟨by rfl, by intro W hSw; go_simp⟩) hHeld ?_
    try simp only [Act.put, List.setIfInBounds_toArray, List.set_cons_zero, List.set_cons_succ]
    refine wpAnyH_take (i := 4) (oi := { dst := some 40, op := .move (.tmp 3), type := 3, pos := "laws_root_b1.go:214", after := #[], guard := none }) (v := .int .i64 tot) rfl (by kernel_rfl) (by kernel_rfl) (by kernel_rfl) (fun _ _ _ h => h) (Or.inl ⟨by rfl, by intro W hSw; go_simp⟩) hHeld ?_
    try simp only [Act.put, List.setIfInBounds_toArray, List.set_cons_zero, List.set_cons_succ]
    refine wpAnyH_take (i := 5) (oi := { dst := some 41, op := .convert 3 37 (.tmp 40), type := 37, pos := "laws_root_b1.go:214", after := #[{ on := 4, ground := .data }], guard := none }) (v := .int .u64 tot) rfl (by kernel_rfl) (by kernel_rfl) (by kernel_rfl) (fun _ _ _ h => h) (Or.inl ⟨by rfl, by intro W hSw; (go_simp <;> exact wu)⟩) hHeld ?_
    try simp only [Act.put, List.setIfInBounds_toArray, List.set_cons_zero, List.set_cons_succ]
    refine wpAnyH_ready (rs := [6]) (by kernel_rfl) (by simp) ?_
    refine AllReadyH.cons (o := { dst := some 42, op := .call { callee := .value (.func 17), args := #[.tmp 37, .tmp 38, .tmp 39, .tmp 41], argTypes := #[26, 27, 28, 37] }, type := 27, pos := "laws_root_b1.go:214", after := #[{ on := 1, ground := .data }, { on := 2, ground := .data }, { on := 3, ground := .data }, { on := 5, ground := .data }], guard := none }) rfl (fun K hK => ?_) AllReadyH.nil
    rw [if_pos (by rfl)]
    go_wp2_with (go_at_call 17; refine (M17.out _ hd0.out).mono ?_; rintro e w8 ⟨rfl, b8⟩)
    refine hK.out _ _ (SOK.out _ b8) (fun hHeld2 => ?_)
    clear hK K
    try simp only [Act.put, List.setIfInBounds_toArray, List.set_cons_zero, List.set_cons_succ]
    refine wpAnyH_take (i := 7) (oi := { dst := some 43, op := .binOp .eql 27 (.tmp 36) (.tmp 42) 27, type := 4, pos := "laws_root_b1.go:214", after := #[{ on := 0, ground := .data }, { on := 6, ground := .data }], guard := none }) (v := .bool true) rfl (by kernel_rfl) (by kernel_rfl) (by kernel_rfl) (fun _ _ _ h => h) (Or.inl ⟨by rfl, by intro W hSw; go_simp⟩) hHeld2 ?_
    try simp only [Act.put, List.setIfInBounds_toArray, List.set_cons_zero, List.set_cons_succ]
    refine wpAnyH_take (i := 8) (oi := { dst := some 8, op := .assign (.tmp 43), type := 4, pos := "laws_root_b1.go:214", after := #[{ on := 7, ground := .data }, { on := 6, ground := .chain }, { on := 0, ground := .phase }, { on := 1, ground := .phase }, { on := 2, ground := .phase }, { on := 3, ground := .phase }, { on := 4, ground := .phase }, { on := 5, ground := .phase }, { on := 6, ground := .phase }, { on := 7, ground := .phase }], guard := none }) (v := .bool true) rfl (by kernel_rfl) (by kernel_rfl) (by kernel_rfl) (fun _ _ _ h => h) (Or.inl ⟨by rfl, by intro W hSw; go_simp⟩) hHeld2 ?_
    try simp only [Act.put, List.setIfInBounds_toArray, List.set_cons_zero, List.set_cons_succ]
    refine wpAnyH_done (by kernel_rfl) ?_ _
    go_wp2
    go_ret
    exact ⟨rfl, B7.out.trans (b8.mono zw)⟩
end Go.Proofs.Qxb6601911aMods
