import Derived.Test.Qxb6601911aModsModel
import Derived.BigGuard
namespace Go.Proofs.Qxb6601911aMods
open Go.RowKit Nm

theorem rowIs_setCells {b n : Nat} {t : TypeId} : ∀ (vs : List Value) (o : Nat) (w : World) (f : Nat → Value), w.rowIs b t n f → ∃ f', (w.setCells b o vs).rowIs b t n f'
  | [], _, _, f, h => ⟨f, h⟩
  | v :: r, o, w, _, h => by
    rw [World.setCells]
    exact rowIs_setCells r (o + 1) _ _ (h.set o v)
/-- a new array that was stored whole -/
theorem made27 (w : World) (c : Array Value) (g : Nat → Int) (hc : c.size = 53) :
    ((w.alloc (.cells c 27)).setCells w.heap.size 0 (arr g).toList).rowIs w.heap.size 27 53 (fun i => .int .i32 (g i)) ∧ Below w.heap.size w ((w.alloc (.cells c 27)).setCells w.heap.size 0 (arr g).toList) := by
  have h1 := World.rangeAt_setCells_same (w.alloc (.cells c 27)) w.heap.size 0 (arr g).toList (there_new w c 27 _ (by simp [arr_size]; omega))
  have hr := World.rowIs_alloc w c 27 (fun i => c.getD i undef) (fun i hi => by simp [hi])
  rw [hc] at hr
  obtain ⟨f', h2⟩ := rowIs_setCells (arr g).toList 0 _ _ hr
  refine ⟨h2.congr (fun i hi => ?_), below_setCells (Nat.le_refl _) _ _ _ (bel_alloc (Below.refl _ _) _)⟩
  have a1 := h1 i (.int .i32 (g i)) (by rw [Array.getElem?_toList]; exact arr_at g i hi)
  rw [Nat.zero_add, h2.cell hi] at a1
  exact Option.some.inj a1

/-- what every world of the model's run has: the copy of norm, the result's room, the array r -/
def MInv (w : World) (a g : Nat → Int) (wr : World) : Prop :=
  Below w.heap.size w wr ∧ wr.heap[w.heap.size]? = some (.cells (arr a) 27 (0, 0)) ∧ wr.there (w.heap.size + 1) 0 53 ∧ RAt wr (w.heap.size + 2) g
theorem rat_lt {w : World} {b : Nat} {g : Nat → Int} (h : RAt w b g) : b < w.heap.size := h.rowIs.lt
theorem MInv.pick {w wr : World} {a g : Nat → Int} (h : MInv w a g wr) : wr.heap[w.heap.size]? = some (.cells (arr a) 27 (0, 0)) ∧ wr.heap[w.heap.size + 2]? = some (.cells (arr64 g) 52 (0, 0)) := ⟨h.2.1, h.2.2.2⟩
theorem MInv.lt {w wr : World} {a g : Nat → Int} (h : MInv w a g wr) : w.heap.size + 2 < wr.heap.size := rat_lt h.2.2.2
theorem MInv.below {w wr wr' : World} {a g : Nat → Int} {B : Nat} (h : MInv w a g wr) (hb : Below B wr wr') (hB : w.heap.size + 2 < B) : MInv w a g wr' := by
  refine ⟨h.1.trans (hb.mono (by omega)), (hb.block _ (by omega)).trans h.2.1, fun j hj => ?_, (hb.block _ hB).trans h.2.2.2⟩
  obtain ⟨h1, h2⟩ := h.2.2.1 j hj
  exact ⟨by rw [hb.cell (by show w.heap.size + 1 < B; omega)]; exact h1, by rw [hb.frozen (by show w.heap.size + 1 < B; omega)]; exact h2⟩
theorem MInv.alloc {w wr : World} {a g : Nat → Int} (h : MInv w a g wr) (o : Obj) : MInv w a g (wr.alloc o) := h.below (bel_alloc (Below.refl _ _) o) h.lt
theorem MInv.drewN {w wr : World} {a g : Nat → Int} (h : MInv w a g wr) (q : Nat) : MInv w a g (wr.drewN q) := h.below (below_drewN (Below.refl wr.heap.size wr) q) h.lt
theorem MInv.set {w wr : World} {a g : Nat → Int} (h : MInv w a g wr) (k : Nat) (v : Int) : MInv w a (upd g k v) (wr.setCell ⟨w.heap.size + 2, k, none⟩ (.int .i64 v)) := by
  have hb : Below (w.heap.size + 2) wr (wr.setCell ⟨w.heap.size + 2, k, none⟩ (.int .i64 v)) := Below.setCell (p := ⟨w.heap.size + 2, k, none⟩) (Below.refl _ _) (Nat.le_refl _) _
  refine ⟨h.1.trans (hb.mono (by omega)), (hb.block _ (by omega)).trans h.2.1, fun j hj => ?_, h.2.2.2.set k v⟩
  obtain ⟨h1, h2⟩ := h.2.2.1 j hj
  exact ⟨by rw [hb.cell (by show w.heap.size + 1 < _; omega)]; exact h1, by rw [hb.frozen (by show w.heap.size + 1 < _; omega)]; exact h2⟩
theorem MInv.congr {w wr : World} {a g g' : Nat → Int} (h : MInv w a g wr) (e : ∀ i, i < 53 → g i = g' i) : MInv w a g' wr := ⟨h.1, h.2.1, h.2.2.1, h.2.2.2.congr e⟩
theorem MInv.cell {w wr : World} {a g : Nat → Int} (h : MInv w a g wr) (i : Nat) (hi : i < 53) : wr.cell? ⟨w.heap.size + 2, i, none⟩ = some (.int .i64 (g i)) ∧ wr.frozen? ⟨w.heap.size + 2, i, none⟩ = false := h.2.2.2.cell i hi
theorem minv_start (w : World) (a : Nat → Int) (c d : Array Value) (hc : 53 ≤ c.size) (hd : d = arr64 (fun _ => 0)) : MInv w a (fun _ => 0) (((w.alloc (.cells (arr a) 27)).alloc (.cells c 27)).alloc (.cells d 52)) := by
  subst hd
  have b1 : Below (w.heap.size + 1) (w.alloc (.cells (arr a) 27)) (((w.alloc (.cells (arr a) 27)).alloc (.cells c 27)).alloc (.cells (arr64 (fun _ => 0)) 52)) := by
    have := bel_alloc (bel_alloc (Below.refl (w.alloc (.cells (arr a) 27)).heap.size (w.alloc (.cells (arr a) 27))) (.cells c 27)) (.cells (arr64 (fun _ => 0)) 52)
    simpa using this
  refine ⟨bel_alloc (bel_alloc (bel_alloc (Below.refl _ _) _) _) _, (b1.block _ (by omega)).trans (heap_alloc_new _ _), ?_, ?_⟩
  · have h := World.there_alloc (there_new (w.alloc (.cells (arr a) 27)) c 27 53 hc) (.cells (arr64 (fun _ => 0)) 52)
    rw [World.size_alloc] at h
    exact h
  · have h := heap_alloc_new ((w.alloc (.cells (arr a) 27)).alloc (.cells c 27)) (.cells (arr64 (fun _ => 0)) 52)
    rw [World.size_alloc, World.size_alloc] at h
    exact h
theorem dec_congr {f g : Nat → Int} {n : Nat} (hn : 0 < n) (h : ∀ i, i < n → f i = g i) : ∀ x i, i < n → dec n f x i = dec n g x i
  | 0, i, hi => h i hi
  | x + 1, i, hi => by rw [dec_succ, dec_succ]; exact stepDec_congr hn (dec_congr hn h x) i hi
theorem mixz_lt {n : Nat} {f a : Nat → Int} {i : Nat} (h : i < n) : mix n f a i = f i := by simp [mix, h]
/-- an operation whose guard says yes -/
theorem wpList_wanted {P : Program} {ops : Array Oper} {rest : List Oper} {o : Oper} {a : Act} {w : World} {Q : Exit → Act → World → Prop} (hw : Region.wanted o (yielded ops a.tmps) = true)
    (h : ∀ K : Act → World → Prop, (∀ a w, wpList P ops Q rest a w → K a w) → o.wp P a w K Q) : wpList P ops Q (o :: rest) a w :=
  wpList_step fun K hK => by rw [if_pos hw]; exact h K hK
theorem wpList_load_row_g {P : Program} {ops : Array Oper} {rest : List Oper} {o : Oper} {a : Act} {w : World} {Q : Exit → Act → World → Prop} (hw : Region.wanted o (yielded ops a.tmps) = true) (ty : TypeId) (x : Operand) (ho : o.op = .load ty x)
    (g : Nat) (hx : a.eval x = .pointer (some ⟨g, 0, none⟩)) (t : TypeId) (cs : Array Value) (fr : Nat × Nat) (d : TypeDesc) (hg : w.heap[g]? = some (.cells cs t fr))
    (hu : P.underlying ty = some d) (hd : (match d with | .struct _ | .array _ _ => true | _ => false) = true) (hi : (P.info? ty).map (·.size) = some cs.size)
    (h : wpList P ops Q rest (a.put o.dst (.agg cs)) w) : wpList P ops Q (o :: rest) a w :=
  wpList_wanted hw fun _ hK => wp_load_row ty x ho g hx t cs fr d hg hu hd hi (hK _ _ h)

/-- the first j cut to T -/
def cut5 (g : Nat → Int) (T : Int) (j : Nat) : Nat → Int := fun i => if i < j then min (g i) T else g i
/-- the first j lowered where they must be -/
def low6 (g : Nat → Int) (T : Int) (k M j : Nat) : Nat → Int := fun i => if i < j then lvl g T M i else cut5 g T k i
theorem cut5_yes {g : Nat → Int} {T : Int} {j : Nat} (c : T < g j) : ∀ i, i < 53 → upd (cut5 g T j) j T i = cut5 g T (j + 1) i := by
  intro i _
  by_cases e : i = j
  · subst e; rw [upd_same]; unfold cut5; rw [if_pos (by omega)]; omega
  · rw [upd_other _ _ e]; unfold cut5
    by_cases e2 : i < j
    · rw [if_pos e2, if_pos (by omega)]
    · rw [if_neg e2, if_neg (by omega)]
theorem cut5_no {g : Nat → Int} {T : Int} {j : Nat} (c : ¬ T < g j) : ∀ i, i < 53 → cut5 g T j i = cut5 g T (j + 1) i := by
  intro i _
  unfold cut5
  by_cases e : i = j
  · subst e; rw [if_neg (by omega), if_pos (by omega)]; omega
  · by_cases e2 : i < j
    · rw [if_pos e2, if_pos (by omega)]
    · rw [if_neg e2, if_neg (by omega)]
theorem low6_yes {g : Nat → Int} {T : Int} {k M j : Nat} (c : T ≤ g j) (hm : cnt g T j < M) : ∀ i, i < 53 → upd (low6 g T k M j) j (T - 1) i = low6 g T k M (j + 1) i := by
  intro i _
  by_cases e : i = j
  · subst e; rw [upd_same]; unfold low6 lvl; rw [if_pos (by omega), if_pos ⟨c, hm⟩]
  · rw [upd_other _ _ e]; unfold low6
    by_cases e2 : i < j
    · rw [if_pos e2, if_pos (by omega)]
    · rw [if_neg e2, if_neg (by omega)]
theorem low6_no {g : Nat → Int} {T : Int} {k M j : Nat} (hj : j < k) (c : ¬ T ≤ g j) : ∀ i, i < 53 → low6 g T k M j i = low6 g T k M (j + 1) i := by
  intro i _
  unfold low6
  by_cases e : i = j
  · subst e; rw [if_neg (by omega), if_pos (by omega)]; unfold cut5 lvl; rw [if_pos hj, if_neg (by omega)]
  · by_cases e2 : i < j
    · rw [if_pos e2, if_pos (by omega)]
    · rw [if_neg e2, if_neg (by omega)]
theorem low6_end {g : Nat → Int} {T : Int} {k M j : Nat} (h : j = k ∨ M ≤ cnt g T j) : ∀ i, i < k → low6 g T k M j i = lvl g T M i := by
  intro i hi
  unfold low6
  by_cases e : i < j
  · rw [if_pos e]
  · rw [if_neg e]
    rcases h with h | h
    · omega
    · have := cnt_mono g T j i (by omega)
      unfold cut5 lvl
      rw [if_pos hi, if_neg (by omega)]

set_option maxHeartbeats 8000000 in
set_option maxRecDepth 100000 in
theorem model17 (L tot : Int) (a h : Nat → Int) (n bh : Nat) (w : World) (hc : ∀ i, i < n → w.cell? ⟨bh, i, none⟩ = some (.int .u32 (h i))) (hbh : bh < w.heap.size)
    (h0 : 0 ≤ L) (h1 : L ≤ 30) (hn : n ≤ 53) (D : Dom (2 ^ L.toNat) tot h n) (hh : ∀ i, i < n → h i ≤ 4294967295) (ht : tot ≤ 300000000000) :
    Calls Trym.prog 17 #[.int .u64 L, .agg (arr a), .slice (some ⟨bh, 0, none⟩) n n, .int .u64 tot] w fun e w' => e = .returned (.agg (arr (mix n (normOf (2 ^ L.toNat) tot h n) a))) ∧ Below w.heap.size w w' := by
  have pb := pow_bd (L := L) (by omega)
  obtain ⟨Z, hZ⟩ : ∃ Z : Int, Z = 2 ^ L.toNat := ⟨_, rfl⟩
  have hw : wrap64 (2 ^ L.toNat) = Z := by rw [← hZ]; exact IntWalk.wrap64_in Z ⟨by omega, by omega⟩
  rw [← hZ] at pb D ⊢
  have HC := hd hc
  have HD := hd D
  have HH := hd hh
  have tpos := D.pos
  clear hZ hc D hh
  go_enter Trym.func17, Trym.ntmps17
  go_wp2
  rw [hw]
  clear hw
  have HM0 := hd (minv_start w a #[.int .i32 0, .int .i32 0, .int .i32 0, .int .i32 0, .int .i32 0, .int .i32 0, .int .i32 0, .int .i32 0, .int .i32 0, .int .i32 0, .int .i32 0, .int .i32 0, .int .i32 0, .int .i32 0, .int .i32 0, .int .i32 0, .int .i32 0, .int .i32 0, .int .i32 0, .int .i32 0, .int .i32 0, .int .i32 0, .int .i32 0, .int .i32 0, .int .i32 0, .int .i32 0, .int .i32 0, .int .i32 0, .int .i32 0, .int .i32 0, .int .i32 0, .int .i32 0, .int .i32 0, .int .i32 0, .int .i32 0, .int .i32 0, .int .i32 0, .int .i32 0, .int .i32 0, .int .i32 0, .int .i32 0, .int .i32 0, .int .i32 0, .int .i32 0, .int .i32 0, .int .i32 0, .int .i32 0, .int .i32 0, .int .i32 0, .int .i32 0, .int .i32 0, .int .i32 0, .int .i32 0] #[.int .i64 0, .int .i64 0, .int .i64 0, .int .i64 0, .int .i64 0, .int .i64 0, .int .i64 0, .int .i64 0, .int .i64 0, .int .i64 0, .int .i64 0, .int .i64 0, .int .i64 0, .int .i64 0, .int .i64 0, .int .i64 0, .int .i64 0, .int .i64 0, .int .i64 0, .int .i64 0, .int .i64 0, .int .i64 0, .int .i64 0, .int .i64 0, .int .i64 0, .int .i64 0, .int .i64 0, .int .i64 0, .int .i64 0, .int .i64 0, .int .i64 0, .int .i64 0, .int .i64 0, .int .i64 0, .int .i64 0, .int .i64 0, .int .i64 0, .int .i64 0, .int .i64 0, .int .i64 0, .int .i64 0, .int .i64 0, .int .i64 0, .int .i64 0, .int .i64 0, .int .i64 0, .int .i64 0, .int .i64 0, .int .i64 0, .int .i64 0, .int .i64 0, .int .i64 0, .int .i64 0] (Nat.le_refl 53) rfl)
  generalize (((w.alloc (.cells (arr a) 27)).alloc (.cells #[.int .i32 0, .int .i32 0, .int .i32 0, .int .i32 0, .int .i32 0, .int .i32 0, .int .i32 0, .int .i32 0, .int .i32 0, .int .i32 0, .int .i32 0, .int .i32 0, .int .i32 0, .int .i32 0, .int .i32 0, .int .i32 0, .int .i32 0, .int .i32 0, .int .i32 0, .int .i32 0, .int .i32 0, .int .i32 0, .int .i32 0, .int .i32 0, .int .i32 0, .int .i32 0, .int .i32 0, .int .i32 0, .int .i32 0, .int .i32 0, .int .i32 0, .int .i32 0, .int .i32 0, .int .i32 0, .int .i32 0, .int .i32 0, .int .i32 0, .int .i32 0, .int .i32 0, .int .i32 0, .int .i32 0, .int .i32 0, .int .i32 0, .int .i32 0, .int .i32 0, .int .i32 0, .int .i32 0, .int .i32 0, .int .i32 0, .int .i32 0, .int .i32 0, .int .i32 0, .int .i32 0] 27)).alloc (.cells #[.int .i64 0, .int .i64 0, .int .i64 0, .int .i64 0, .int .i64 0, .int .i64 0, .int .i64 0, .int .i64 0, .int .i64 0, .int .i64 0, .int .i64 0, .int .i64 0, .int .i64 0, .int .i64 0, .int .i64 0, .int .i64 0, .int .i64 0, .int .i64 0, .int .i64 0, .int .i64 0, .int .i64 0, .int .i64 0, .int .i64 0, .int .i64 0, .int .i64 0, .int .i64 0, .int .i64 0, .int .i64 0, .int .i64 0, .int .i64 0, .int .i64 0, .int .i64 0, .int .i64 0, .int .i64 0, .int .i64 0, .int .i64 0, .int .i64 0, .int .i64 0, .int .i64 0, .int .i64 0, .int .i64 0, .int .i64 0, .int .i64 0, .int .i64 0, .int .i64 0, .int .i64 0, .int .i64 0, .int .i64 0, .int .i64 0, .int .i64 0, .int .i64 0, .int .i64 0, .int .i64 0] 52)) = W0 at HM0 ⊢
  go_loopw [11, 12] (fun s i wr => ∃ k : Nat, k ≤ n ∧ i = .int .i64 k ∧ s = .int .i64 (psum (share Z tot h) k) ∧ MInv w a (mix k (share Z tot h) (fun _ => 0)) wr) (fun _ i _ => n - (intOf i).toNat)
  case atStart => exact ⟨0, Nat.zero_le _, rfl, rfl, HM0.out.congr (fun i _ => by simp [mix])⟩
  case round =>
    obtain ⟨k, hk, rfl, rfl, hE⟩ := hrel
    have sb := HD.out.sum_le k (by omega)
    by_cases hlt : k < n
    · have sb1 := HD.out.sum_le (k + 1) (by omega)
      rw [psum_succ] at sb1
      have hs := HD.out.share k hlt
      have g1 : wr.cell? ⟨bh, k, none⟩ = some (.int .u32 (h k)) := (hE.1.cell hbh).trans (HC.out k hlt)
      have g2 := (hE.cell k (by omega)).1
      have g3 := (hE.cell k (by omega)).2
      rw [show mix k (share Z tot h) (fun _ => 0) k = 0 from by simp [mix]] at g2
      have i1 : (k : Int) < 53 := by omega
      have hk0 := HD.out.nonneg k hlt
      have hk1 := HH.out k hlt
      have HN := hd (hE.set k (share Z tot h k))
      have HE := hd hE
      have stepE : ∀ i, i < 53 → upd (mix k (share Z tot h) (fun _ => 0)) k (share Z tot h k) i = mix (k + 1) (share Z tot h) (fun _ => 0) i := by
        intro i _
        by_cases e : i = k
        · subst e; rw [upd_same, mix_lt (by omega)]
        · rw [upd_other _ _ e]; unfold mix; by_cases e2 : i < k
          · rw [if_pos e2, if_pos (by omega)]
          · rw [if_neg e2, if_neg (by omega)]
      have HS := hd stepE
      clear hE stepE
      by_cases z : h k = 0
      · have hq : share Z tot h k = 0 := hs.2.2.1 z
        have z' : (h k != 0) = false := by rw [bne_eq_false_iff_eq]; exact z
        have Hq := hd hq
        clear hs z hq HN sb1
        go_wp2
        go_roundw
        case rel =>
          refine ⟨k + 1, by omega, by go_num, by rw [psum_succ, Hq.out]; simp, HE.out.congr (fun i hi => ?_)⟩
          rw [← HS.out i hi, Hq.out]
          by_cases e : i = k
          · subst e; rw [upd_same]; simp [mix]
          · rw [upd_other _ _ e]
        case measure => simp [intOf]; omega
      · have z' : (h k != 0) = true := by rw [bne_iff_ne]; exact z
        have m0 : 0 ≤ 2 * h k * Z := Int.mul_nonneg (by omega) (by omega)
        have m1 : 2 * h k * Z ≤ 8589934590 * 1073741824 := Int.mul_le_mul (by omega) pb.2 (by omega) (by omega)
        have qe : (2 * h k * Z + tot) / (2 * tot) = (h k * Z + tot / 2) / tot := by rw [Int.mul_assoc]; exact q_model
        have hq : share Z tot h k = max ((2 * h k * Z + tot) / (2 * tot)) 1 := by rw [qe]; unfold share qOf; rw [if_neg z]
        have q0 : 0 ≤ (2 * h k * Z + tot) / (2 * tot) := Int.ediv_nonneg (by omega) (by omega)
        have q1 : (2 * h k * Z + tot) / (2 * tot) ≤ Z := by have := hs.2.1; omega
        clear qe
        by_cases c : (2 * h k * Z + tot) / (2 * tot) < 1
        · have hq1 : share Z tot h k = 1 := by omega
          rw [hq1] at HN sb1
          have Hq := hd hq1
          clear hs z hq hq1 HE
          go_wp2
          go_roundw
          case rel => exact ⟨k + 1, by omega, by go_num, by rw [psum_succ, Hq.out], HN.out.congr (fun i hi => by have := HS.out i hi; rw [Hq.out] at this; exact this)⟩
          case measure => simp [intOf]; omega
        · have hq1 : share Z tot h k = (2 * h k * Z + tot) / (2 * tot) := by omega
          rw [hq1] at HN sb1
          have Hq := hd hq1
          clear hs z hq hq1 HE
          go_wp2
          go_roundw
          case rel => exact ⟨k + 1, by omega, by go_num, by rw [psum_succ, Hq.out], HN.out.congr (fun i hi => by have := HS.out i hi; rw [Hq.out] at this; exact this)⟩
          case measure => simp [intOf]; omega
    · have e : k = n := by omega
      subst e
      have hnp := HD.out.npos
      have hG0 := HD.out.good
      have hF := HD.out.normOf
      obtain ⟨F, hFd⟩ : ∃ F, F = normOf Z tot h k := ⟨_, rfl⟩
      rw [← hFd] at hF
      have HFG := hd hF.1
      obtain ⟨g, hg⟩ : ∃ g, g = mix k (share Z tot h) (fun _ => 0) := ⟨_, rfl⟩
      rw [← hg] at hE
      have hgs : ∀ i, i < k → g i = share Z tot h i := fun i hi => by rw [hg, mix_lt hi]
      have Hgs := hd hgs
      obtain ⟨S, hS⟩ : ∃ S, S = psum (share Z tot h) k := ⟨_, rfl⟩
      have hSg : psum g k = S := by rw [hS]; exact psum_congr k hgs
      rw [← hS] at sb ⊢
      have HS := hd hS
      have HSg := hd hSg
      have HFd := hd hFd
      have Hgb : Hid (∀ i, i < k → 0 ≤ g i ∧ g i ≤ Z) := fun i hi => by rw [hgs i hi]; exact ⟨hG0.nonneg i hi, hG0.le i hi⟩
      have HMI := hd hE
      obtain ⟨W, rfl⟩ : ∃ W, W = wr := ⟨_, rfl⟩
      have kb : -1073741824 ≤ S - Z ∧ S - Z ≤ 53 := by omega
      clear hG0 hF hFd hg hgs hS hSg hE HC HH HM0
      by_cases k0 : S = Z
      · have d1 : S ≤ Z := by omega
        have d2 : Z ≤ S := by omega
        have HGF : Hid (∀ i, i < k → g i = F i) := fun i hi => by
          rw [Hgs.out i hi, HFd.out]
          unfold normOf
          rw [← HS.out, if_neg (by omega), show (S - Z).toNat = 0 by omega]
          rfl
        obtain ⟨W9, rfl⟩ : ∃ W9, W9 = W := ⟨_, rfl⟩
        clear k0 Hgs HS HSg Hgb HD kb
        have hlt9 := HMI.out.lt
        go_wp2_with (first | (refine wpList_load_row rfl 27 _ rfl w.heap.size rfl 27 (arr a) (0, 0) _ HMI.out.2.1 Trym.underlying27 rfl arr_info ?_) | (refine wpList_store_mid rfl 27 (.tmp 24) _ rfl _ 0 (arr a) (by rfl) rfl (there_new _ _ _ _ (Nat.le_refl 53)) arr_info (arr_one a) ?_))
        have H8 := hd (made27 W9 #[.int .i32 0, .int .i32 0, .int .i32 0, .int .i32 0, .int .i32 0, .int .i32 0, .int .i32 0, .int .i32 0, .int .i32 0, .int .i32 0, .int .i32 0, .int .i32 0, .int .i32 0, .int .i32 0, .int .i32 0, .int .i32 0, .int .i32 0, .int .i32 0, .int .i32 0, .int .i32 0, .int .i32 0, .int .i32 0, .int .i32 0, .int .i32 0, .int .i32 0, .int .i32 0, .int .i32 0, .int .i32 0, .int .i32 0, .int .i32 0, .int .i32 0, .int .i32 0, .int .i32 0, .int .i32 0, .int .i32 0, .int .i32 0, .int .i32 0, .int .i32 0, .int .i32 0, .int .i32 0, .int .i32 0, .int .i32 0, .int .i32 0, .int .i32 0, .int .i32 0, .int .i32 0, .int .i32 0, .int .i32 0, .int .i32 0, .int .i32 0, .int .i32 0, .int .i32 0, .int .i32 0] a rfl)
        generalize ((W9.alloc (.cells #[.int .i32 0, .int .i32 0, .int .i32 0, .int .i32 0, .int .i32 0, .int .i32 0, .int .i32 0, .int .i32 0, .int .i32 0, .int .i32 0, .int .i32 0, .int .i32 0, .int .i32 0, .int .i32 0, .int .i32 0, .int .i32 0, .int .i32 0, .int .i32 0, .int .i32 0, .int .i32 0, .int .i32 0, .int .i32 0, .int .i32 0, .int .i32 0, .int .i32 0, .int .i32 0, .int .i32 0, .int .i32 0, .int .i32 0, .int .i32 0, .int .i32 0, .int .i32 0, .int .i32 0, .int .i32 0, .int .i32 0, .int .i32 0, .int .i32 0, .int .i32 0, .int .i32 0, .int .i32 0, .int .i32 0, .int .i32 0, .int .i32 0, .int .i32 0, .int .i32 0, .int .i32 0, .int .i32 0, .int .i32 0, .int .i32 0, .int .i32 0, .int .i32 0, .int .i32 0, .int .i32 0] 27)).setCells W9.heap.size 0 (arr a).toList) = W8 at H8 ⊢
        obtain ⟨r8, b8⟩ := H8.out
        have M8 := hd (HMI.out.below b8 hlt9)
        have R8 := hd r8
        clear H8 r8 b8 HMI
        obtain ⟨O, hO⟩ : ∃ O, O = W9.heap.size := ⟨_, rfl⟩
        rw [← hO] at R8 hlt9 ⊢
        clear hO
        go_loopw [25] (fun i wr => ∃ j : Nat, j ≤ k ∧ i = .int .i64 j ∧ wr.rowIs O 27 53 (fun i => .int .i32 (mix j F a i)) ∧ Below O W8 wr) (fun i _ => k - (intOf i).toNat)
        case atStart => exact ⟨0, Nat.zero_le _, rfl, R8.out.congr (fun i _ => by simp [mix]), Below.refl _ _⟩
        case round =>
          obtain ⟨j, hj, rfl, hr, hb⟩ := hrel
          by_cases hlt2 : j < k
          · have c1 : wr.cell? ⟨w.heap.size + 2, j, none⟩ = some (.int .i64 (F j)) := (hb.cell hlt9).trans (by rw [(M8.out.cell j (by omega)).1, HGF.out j hlt2])
            have c2 := hr.cell (i := j) (by omega)
            have c3 := hr.frozen j
            have f0 := HFG.out.nonneg j hlt2
            have f1 := HFG.out.le j hlt2
            have i1 : (j : Int) < 53 := by omega
            have HR := hd ((hr.set j (.int .i32 (F j))).congr (g := fun i => .int .i32 (mix (j + 1) F a i)) (fun i _ => by
              by_cases e : i = j
              · subst e; simp [mix]
              · by_cases e2 : i < j
                · simp [mix, e, e2, show i < j + 1 by omega]
                · simp [mix, e, e2, show ¬ i < j + 1 by omega]))
            have HB := hd (hb.setCell (p := ⟨O, j, none⟩) (Nat.le_refl _) (.int .i32 (F j)))
            clear hr hb
            go_wp2
            go_roundw
            case rel => exact ⟨j + 1, by omega, by go_num, HR.out, HB.out⟩
            case measure => simp [intOf]; omega
          · have e : j = k := by omega
            subst e
            have hrg : wr.rangeAt O 0 (arr (mix j F a)).toList := by
              intro i v hv
              have hi : i < 53 := by have := (List.getElem?_eq_some_iff.1 hv).1; simpa [arr_size] using this
              rw [Array.getElem?_toList, arr_at _ i hi] at hv
              cases hv
              rw [Nat.zero_add]
              exact hr.cell hi
            have HRG := hd hrg
            have HTH := hd (M8.out.below hb hlt9).2.2.1
            have HBB := hd (M8.out.below hb hlt9).1
            clear hr hb hrg
            go_wp2_with (first | (refine wpList_load_mid rfl 27 _ rfl O 0 rfl (arr (mix j F a)).toList _ HRG.out Trym.underlying27 rfl arr_info ?_) | (refine wpList_store_mid rfl 27 _ _ rfl (w.heap.size + 1) 0 (arr (mix j F a)) rfl rfl HTH.out arr_info (arr_one _) ?_))
            refine bodyPost_ret (v := .agg (arr (mix j F a)).toList.toArray) (results_cell_mid rfl _ _ (w.heap.size + 1) (arr (mix j F a)).toList _ rfl (World.rangeAt_setCells_same _ _ _ _ HTH.out) Trym.underlying27 rfl arr_info) rfl ⟨by rw [← HFd.out], ?_⟩
            exact below_setCells (by omega) _ _ _ HBB.out
      rcases Int.lt_or_gt_of_ne k0 with c0 | c0
      · have hb1 : big g 1 = 0 := by simp [big]
        have Hb1 := hd hb1
        clear hb1 k0
        go_wp2
        rw [show decide (S - Z < 0) = true from decide_eq_true (by omega)]
        go_loopw [16, 17] (fun bg i wr => ∃ j : Nat, 1 ≤ j ∧ j ≤ k ∧ i = .int .i64 j ∧ bg = .int .i64 (big g j : Nat) ∧ ∃ q, wr = W.drewN q) (fun _ i _ => k - (intOf i).toNat)
        case atStart => exact ⟨1, Nat.le_refl _, hnp, rfl, by rw [Hb1.out]; rfl, 0, rfl⟩
        case round =>
          obtain ⟨j, hj0, hj, rfl, rfl, q, rfl⟩ := hrel
          have bl : big g j < j := big_lt g j (by omega)
          by_cases hlt2 : j < k
          · have e1 := (HMI.out.cell j (by omega)).1
            have e2 := (HMI.out.cell (big g j) (by omega)).1
            have i1 : (0 : Int) ≤ (j : Int) := by omega
            have i2 : (j : Int) < 53 := by omega
            have i3 : (0 : Int) ≤ (big g j : Int) := by omega
            have i4 : (big g j : Int) < 53 := by omega
            by_cases cm : g (big g j) < g j
            · have HBG : Hid (big g (j + 1) = j) := by show _ = _; rw [big_succ, if_pos cm]
              go_wp2
              go_quiet (fail)
              go_wp2
              go_roundw
              case rel => first | exact ⟨j + 1, by omega, by omega, by go_num, by rw [HBG.out], _, rfl⟩ | ((repeat apply Exists.intro); refine ⟨⟨j + 1, by omega, by omega, (by go_num : Value.int .i64 ((j : Int) + 1) = _), by rw [HBG.out], _, rfl⟩, rfl⟩)
              case measure => simp [intOf]; omega
            · have HBG : Hid (big g (j + 1) = big g j) := by show _ = _; rw [big_succ, if_neg cm]
              go_wp2
              go_quiet (fail)
              go_wp2
              go_roundw
              case rel => first | exact ⟨j + 1, by omega, by omega, by go_num, by rw [HBG.out], _, rfl⟩ | ((repeat apply Exists.intro); refine ⟨⟨j + 1, by omega, by omega, (by go_num : Value.int .i64 ((j : Int) + 1) = _), by rw [HBG.out], _, rfl⟩, rfl⟩)
              case measure => simp [intOf]; omega
          · have e : k = j := by omega
            subst e
            obtain ⟨m, hm⟩ : ∃ m, m = big g k := ⟨_, rfl⟩
            rw [← hm] at bl ⊢
            have HM2 := hd (HMI.out.drewN q)
            clear HMI
            generalize W.drewN q = W2 at HM2 ⊢
            have e1 := (HM2.out.cell m (by omega)).1
            have e2 := (HM2.out.cell m (by omega)).2
            have gb := Hgb.out m bl
            have i1 : (m : Int) < 53 := by omega
            have HMI := hd (HM2.out.set m (g m - (S - Z)))
            have HGF : Hid (∀ i, i < k → upd g m (g m - (S - Z)) i = F i) := fun i hi => by
              have hbb : big (share Z tot h) k = m := by rw [hm]; exact (big_congr hnp Hgs.out).symm
              rw [HFd.out]
              unfold normOf
              rw [← HS.out, if_pos (by omega)]
              unfold raise
              rw [← HS.out, hbb, ← Hgs.out m bl]
              by_cases e : i = m
              · subst e; rw [upd_same, upd_same]; omega
              · rw [upd_other _ _ e, upd_other _ _ e]; exact Hgs.out i hi
            clear hm HM2 Hgs HS HSg Hgb HD kb Hb1
            have hlt9 := HMI.out.lt
            go_wp2_with (first | (refine wpList_load_row rfl 27 _ rfl w.heap.size rfl 27 (arr a) (0, 0) _ HMI.out.2.1 Trym.underlying27 rfl arr_info ?_; generalize (W2.setCell ⟨w.heap.size + 2, m, none⟩ (.int .i64 (g m - (S - Z)))) = W9 at HMI hlt9 ⊢) | (refine wpList_store_mid rfl 27 (.tmp 24) _ rfl _ 0 (arr a) (by rfl) rfl (there_new _ _ _ _ (Nat.le_refl 53)) arr_info (arr_one a) ?_))
            have H8 := hd (made27 W9 #[.int .i32 0, .int .i32 0, .int .i32 0, .int .i32 0, .int .i32 0, .int .i32 0, .int .i32 0, .int .i32 0, .int .i32 0, .int .i32 0, .int .i32 0, .int .i32 0, .int .i32 0, .int .i32 0, .int .i32 0, .int .i32 0, .int .i32 0, .int .i32 0, .int .i32 0, .int .i32 0, .int .i32 0, .int .i32 0, .int .i32 0, .int .i32 0, .int .i32 0, .int .i32 0, .int .i32 0, .int .i32 0, .int .i32 0, .int .i32 0, .int .i32 0, .int .i32 0, .int .i32 0, .int .i32 0, .int .i32 0, .int .i32 0, .int .i32 0, .int .i32 0, .int .i32 0, .int .i32 0, .int .i32 0, .int .i32 0, .int .i32 0, .int .i32 0, .int .i32 0, .int .i32 0, .int .i32 0, .int .i32 0, .int .i32 0, .int .i32 0, .int .i32 0, .int .i32 0, .int .i32 0] a rfl)
            generalize ((W9.alloc (.cells #[.int .i32 0, .int .i32 0, .int .i32 0, .int .i32 0, .int .i32 0, .int .i32 0, .int .i32 0, .int .i32 0, .int .i32 0, .int .i32 0, .int .i32 0, .int .i32 0, .int .i32 0, .int .i32 0, .int .i32 0, .int .i32 0, .int .i32 0, .int .i32 0, .int .i32 0, .int .i32 0, .int .i32 0, .int .i32 0, .int .i32 0, .int .i32 0, .int .i32 0, .int .i32 0, .int .i32 0, .int .i32 0, .int .i32 0, .int .i32 0, .int .i32 0, .int .i32 0, .int .i32 0, .int .i32 0, .int .i32 0, .int .i32 0, .int .i32 0, .int .i32 0, .int .i32 0, .int .i32 0, .int .i32 0, .int .i32 0, .int .i32 0, .int .i32 0, .int .i32 0, .int .i32 0, .int .i32 0, .int .i32 0, .int .i32 0, .int .i32 0, .int .i32 0, .int .i32 0, .int .i32 0] 27)).setCells W9.heap.size 0 (arr a).toList) = W8 at H8 ⊢
            obtain ⟨r8, b8⟩ := H8.out
            have M8 := hd (HMI.out.below b8 hlt9)
            have R8 := hd r8
            clear H8 r8 b8 HMI
            obtain ⟨O, hO⟩ : ∃ O, O = W9.heap.size := ⟨_, rfl⟩
            rw [← hO] at R8 hlt9 ⊢
            clear hO
            go_loopw [25] (fun i wr => ∃ j : Nat, j ≤ k ∧ i = .int .i64 j ∧ wr.rowIs O 27 53 (fun i => .int .i32 (mix j F a i)) ∧ Below O W8 wr) (fun i _ => k - (intOf i).toNat)
            case atStart => exact ⟨0, Nat.zero_le _, rfl, R8.out.congr (fun i _ => by simp [mix]), Below.refl _ _⟩
            case round =>
              obtain ⟨j, hj, rfl, hr, hb⟩ := hrel
              by_cases hlt2 : j < k
              · have c1 : wr.cell? ⟨w.heap.size + 2, j, none⟩ = some (.int .i64 (F j)) := (hb.cell hlt9).trans (by rw [(M8.out.cell j (by omega)).1, HGF.out j hlt2])
                have c2 := hr.cell (i := j) (by omega)
                have c3 := hr.frozen j
                have f0 := HFG.out.nonneg j hlt2
                have f1 := HFG.out.le j hlt2
                have i1 : (j : Int) < 53 := by omega
                have HR := hd ((hr.set j (.int .i32 (F j))).congr (g := fun i => .int .i32 (mix (j + 1) F a i)) (fun i _ => by
                  by_cases e : i = j
                  · subst e; simp [mix]
                  · by_cases e2 : i < j
                    · simp [mix, e, e2, show i < j + 1 by omega]
                    · simp [mix, e, e2, show ¬ i < j + 1 by omega]))
                have HB := hd (hb.setCell (p := ⟨O, j, none⟩) (Nat.le_refl _) (.int .i32 (F j)))
                clear hr hb
                go_wp2
                go_roundw
                case rel => exact ⟨j + 1, by omega, by go_num, HR.out, HB.out⟩
                case measure => simp [intOf]; omega
              · have e : j = k := by omega
                subst e
                have hrg : wr.rangeAt O 0 (arr (mix j F a)).toList := by
                  intro i v hv
                  have hi : i < 53 := by have := (List.getElem?_eq_some_iff.1 hv).1; simpa [arr_size] using this
                  rw [Array.getElem?_toList, arr_at _ i hi] at hv
                  cases hv
                  rw [Nat.zero_add]
                  exact hr.cell hi
                have HRG := hd hrg
                have HTH := hd (M8.out.below hb hlt9).2.2.1
                have HBB := hd (M8.out.below hb hlt9).1
                clear hr hb hrg
                go_wp2_with (first | (refine wpList_load_mid rfl 27 _ rfl O 0 rfl (arr (mix j F a)).toList _ HRG.out Trym.underlying27 rfl arr_info ?_) | (refine wpList_store_mid rfl 27 _ _ rfl (w.heap.size + 1) 0 (arr (mix j F a)) rfl rfl HTH.out arr_info (arr_one _) ?_))
                refine bodyPost_ret (v := .agg (arr (mix j F a)).toList.toArray) (results_cell_mid rfl _ _ (w.heap.size + 1) (arr (mix j F a)).toList _ rfl (World.rangeAt_setCells_same _ _ _ _ HTH.out) Trym.underlying27 rfl arr_info) rfl ⟨by rw [← HFd.out], ?_⟩
                exact below_setCells (by omega) _ _ _ HBB.out
      · clear k0
        have HB2 : Hid (∀ i, i < k → 0 ≤ g i ∧ g i ≤ 2147483648) := fun i hi => ⟨(Hgb.out i hi).1, by have := (Hgb.out i hi).2; omega⟩
        go_wp2
        go_loop [18, 19] (fun m i => ∃ j : Nat, j ≤ k ∧ i = .int .i64 j ∧ m = .int .i64 (mx g j)) (fun _ i => k - (intOf i).toNat)
        case atStart => exact ⟨0, Nat.zero_le _, rfl, rfl⟩
        case round =>
          obtain ⟨j, hj, rfl, rfl⟩ := hrel
          have m0 := mx_nonneg g j
          have m1 := mx_le g Z (by omega) j (fun i hi => (Hgb.out i (by omega)).2)
          by_cases hlt2 : j < k
          · have e1 := (HMI.out.cell j (by omega)).1
            have i1 : (j : Int) < 53 := by omega
            have gb := Hgb.out j hlt2
            by_cases cm : mx g j < g j
            · have HBG : Hid (mx g (j + 1) = g j) := by show _ = _; rw [mx_succ, if_pos cm]
              go_wp2
              go_round
              case rel => exact ⟨j + 1, by omega, by go_num, by rw [HBG.out]⟩
              case measure => simp [intOf]; omega
            · have HBG : Hid (mx g (j + 1) = mx g j) := by show _ = _; rw [mx_succ, if_neg cm]
              go_wp2
              go_round
              case rel => exact ⟨j + 1, by omega, by go_num, by rw [HBG.out]⟩
              case measure => simp [intOf]; omega
          · have e : k = j := by omega
            subst e
            by_cases ct : mx g k - (S - Z) < 0
            · go_wp2
              go_loopw [20] (fun t wr => ∃ T : Int, 0 ≤ T ∧ T ≤ mx g k ∧ t = .int .i64 T ∧ Hid (T = max (mx g k - (S - Z)) 0 ∨ S - Z < excess g (T - 1) k) ∧ MInv w a g wr) (fun t _ => (mx g k - intOf t).toNat)
              case atStart => exact ⟨0, by omega, by omega, rfl, Or.inl (by omega), HMI.out⟩
              case round =>
                clear ct
                obtain ⟨T, t0, t1, rfl, hT, hE⟩ := hrel
                have e0 := excess_nonneg g T k
                have e9 := excess_bd (f := g) t0 k (fun i hi => (HB2.out i (by omega)).2)
                have HE := hd hE
                clear hE HMI
                have L1 := hd HE.out.pick.2
                have L2 := hd (HE.out.alloc (.cells (arr64 g) 52)).pick.2
                by_cases c1 : T < mx g k
                · by_cases c2 : S - Z < excess g T k
                  · go_wp2_with (first | (refine wpList_load_row rfl 52 _ rfl (w.heap.size + 2) rfl 52 (arr64 g) (0, 0) _ (by first | with_reducible exact L1.out | with_reducible exact L2.out) Trym.underlying52 rfl arr64_info ?_) | (refine wpList_load_row_g (by rfl) 52 _ rfl (w.heap.size + 2) rfl 52 (arr64 g) (0, 0) _ (by first | with_reducible exact L1.out | with_reducible exact L2.out) Trym.underlying52 rfl arr64_info ?_) | (go_at_call 25; refine (excess25 g k T _ hn t0 (by omega) HB2.out).mono ?_; rintro e w' ⟨rfl, rfl⟩))
                    go_roundw
                    case rel => exact ⟨T + 1, by omega, by omega, rfl, Or.inr (by rw [show T + 1 - 1 = T by omega]; exact c2), HE.out.alloc _⟩
                    case measure => simp [intOf]; omega
                  · have hx : excess g T k ≤ S - Z := by omega
                    have hfit := level_fit (f := g) (n := k) (k := S - Z) (t := T) (by omega) (by rw [HSg.out]; omega) (fun i hi => (Hgb.out i hi).1) t1 hT.out hx
                    obtain ⟨Mn, hMn⟩ : ∃ Mn : Nat, Mn = (S - Z - excess g T k).toNat := ⟨_, rfl⟩
                    rw [← hMn] at hfit
                    have hMe : (Mn : Int) = S - Z - excess g T k := by omega
                    have HFin : Hid (∀ i, i < k → lvl g T Mn i = F i) := fun i hi => by
                      rw [HFd.out]
                      unfold normOf
                      rw [← HS.out, if_neg (by omega), dec_congr hnp (fun i hi => (Hgs.out i hi).symm) _ i hi]
                      exact (dec_level hnp _ T Mn hfit (by omega) i hi).symm
                    have HMe := hd hMe
                    clear hMn hfit hMe
                    go_wp2_with (first | (refine wpList_load_row rfl 52 _ rfl (w.heap.size + 2) rfl 52 (arr64 g) (0, 0) _ (by first | with_reducible exact L1.out | with_reducible exact L2.out) Trym.underlying52 rfl arr64_info ?_) | (refine wpList_load_row_g (by rfl) 52 _ rfl (w.heap.size + 2) rfl 52 (arr64 g) (0, 0) _ (by first | with_reducible exact L1.out | with_reducible exact L2.out) Trym.underlying52 rfl arr64_info ?_) | (go_at_call 25; refine (excess25 g k T _ hn t0 (by omega) HB2.out).mono ?_; rintro e w' ⟨rfl, rfl⟩))
                    have hMe2 : (Mn : Int) ≤ 53 := by have := HMe.out; omega
                    go_loopw [22] (fun i wr => ∃ j : Nat, j ≤ k ∧ i = .int .i64 j ∧ MInv w a (cut5 g T j) wr) (fun i _ => k - (intOf i).toNat)
                    case atStart => exact ⟨0, Nat.zero_le _, rfl, (by first | exact (HE.out.alloc _) | exact ((HE.out.alloc _).alloc _) : MInv w a g _).congr (fun i _ => by simp [cut5])⟩
                    case round =>
                      obtain ⟨j, hj, rfl, hE⟩ := hrel
                      by_cases hlt2 : j < k
                      · have e1 := (hE.cell j (by omega)).1
                        rw [show cut5 g T j j = g j from by simp [cut5]] at e1
                        have e2 := (hE.cell j (by omega)).2
                        have gb := Hgb.out j hlt2
                        have i1 : (j : Int) < 53 := by omega
                        by_cases c : T < g j
                        · have HN := hd ((hE.set j T).congr (cut5_yes c))
                          clear hE
                          go_wp2
                          go_roundw
                          case rel => exact ⟨j + 1, by omega, by go_num, HN.out⟩
                          case measure => simp [intOf]; omega
                        · have HN := hd (hE.congr (cut5_no c))
                          clear hE
                          go_wp2
                          go_roundw
                          case rel => exact ⟨j + 1, by omega, by go_num, HN.out⟩
                          case measure => simp [intOf]; omega
                      · have e : k = j := by omega
                        subst e
                        have HE5 := hd hE
                        clear hE HE
                        go_wp2
                        go_loopw [21, 23] (fun m i wr => ∃ j : Nat, j ≤ k ∧ i = .int .i64 j ∧ cnt g T j ≤ Mn ∧ m = .int .i64 ((Mn : Int) - (cnt g T j : Nat)) ∧ MInv w a (low6 g T k Mn j) wr) (fun _ i _ => k - (intOf i).toNat)
                        case atStart => exact ⟨0, Nat.zero_le _, rfl, Nat.zero_le _, by rw [show S - Z - excess g T k = (Mn : Int) - (cnt g T 0 : Nat) by have := HMe.out; simp only [cnt]; omega], HE5.out.congr (fun i _ => by simp [low6])⟩
                        case round =>
                          obtain ⟨j, hj, rfl, hcm, rfl, hE⟩ := hrel
                          by_cases hex : j < k ∧ cnt g T j < Mn
                          · obtain ⟨hlt2, hmm⟩ := hex
                            have e1 := (hE.cell j (by omega)).1
                            have e2 := (hE.cell j (by omega)).2
                            have gb := Hgb.out j hlt2
                            have i1 : (j : Int) < 53 := by omega
                            have i2 : (0 : Int) < (Mn : Int) - (cnt g T j : Nat) := by omega
                            have e3 : low6 g T k Mn j j = min (g j) T := by unfold low6 cut5; rw [if_neg (by omega), if_pos hlt2]
                            by_cases c : T ≤ g j
                            · rw [e3, show min (g j) T = T by omega] at e1
                              have HN := hd ((hE.set j (T - 1)).congr (low6_yes c hmm))
                              have HX : Hid (cnt g T (j + 1) = cnt g T j + 1) := by show _ = _; rw [cnt_succ, if_pos c]
                              clear hE e3
                              go_wp2
                              go_roundw
                              case rel => exact ⟨j + 1, by omega, by go_num, by rw [HX.out]; omega, by rw [HX.out, show (Mn : Int) - ((cnt g T j + 1 : Nat) : Int) = (Mn : Int) - (cnt g T j : Nat) - 1 by omega], HN.out⟩
                              case measure => simp [intOf]; omega
                            · rw [e3, show min (g j) T = g j by omega] at e1
                              have HN := hd (hE.congr (low6_no hlt2 c))
                              have HX : Hid (cnt g T (j + 1) = cnt g T j) := by show _ = _; rw [cnt_succ, if_neg c]; rfl
                              have ne : (g j == T) = false := by rw [beq_eq_false_iff_ne]; omega
                              clear hE e3
                              go_wp2
                              go_roundw
                              case rel => exact ⟨j + 1, by omega, by go_num, by rw [HX.out]; omega, by rw [HX.out], HN.out⟩
                              case measure => simp [intOf]; omega
                          · by_cases hlt2 : j < k
                            · have i2 : (Mn : Int) - (cnt g T j : Nat) ≤ 0 := by omega
                              have i3 : (Mn : Int) - (cnt g T j : Nat) = 0 := by omega
                              have HGF : Hid (∀ i, i < k → low6 g T k Mn j i = F i) := fun i hi => (low6_end (by omega) i hi).trans (HFin.out i hi)
                              have HMI := hd hE
                              obtain ⟨W9, rfl⟩ : ∃ W9, W9 = wr := ⟨_, rfl⟩
                              clear hE
                              have hlt9 := HMI.out.lt
                              go_wp2_with (first | (refine wpList_load_row rfl 27 _ rfl w.heap.size rfl 27 (arr a) (0, 0) _ HMI.out.2.1 Trym.underlying27 rfl arr_info ?_) | (refine wpList_store_mid rfl 27 (.tmp 24) _ rfl _ 0 (arr a) (by rfl) rfl (there_new _ _ _ _ (Nat.le_refl 53)) arr_info (arr_one a) ?_))
                              have H8 := hd (made27 W9 #[.int .i32 0, .int .i32 0, .int .i32 0, .int .i32 0, .int .i32 0, .int .i32 0, .int .i32 0, .int .i32 0, .int .i32 0, .int .i32 0, .int .i32 0, .int .i32 0, .int .i32 0, .int .i32 0, .int .i32 0, .int .i32 0, .int .i32 0, .int .i32 0, .int .i32 0, .int .i32 0, .int .i32 0, .int .i32 0, .int .i32 0, .int .i32 0, .int .i32 0, .int .i32 0, .int .i32 0, .int .i32 0, .int .i32 0, .int .i32 0, .int .i32 0, .int .i32 0, .int .i32 0, .int .i32 0, .int .i32 0, .int .i32 0, .int .i32 0, .int .i32 0, .int .i32 0, .int .i32 0, .int .i32 0, .int .i32 0, .int .i32 0, .int .i32 0, .int .i32 0, .int .i32 0, .int .i32 0, .int .i32 0, .int .i32 0, .int .i32 0, .int .i32 0, .int .i32 0, .int .i32 0] a rfl)
                              generalize ((W9.alloc (.cells #[.int .i32 0, .int .i32 0, .int .i32 0, .int .i32 0, .int .i32 0, .int .i32 0, .int .i32 0, .int .i32 0, .int .i32 0, .int .i32 0, .int .i32 0, .int .i32 0, .int .i32 0, .int .i32 0, .int .i32 0, .int .i32 0, .int .i32 0, .int .i32 0, .int .i32 0, .int .i32 0, .int .i32 0, .int .i32 0, .int .i32 0, .int .i32 0, .int .i32 0, .int .i32 0, .int .i32 0, .int .i32 0, .int .i32 0, .int .i32 0, .int .i32 0, .int .i32 0, .int .i32 0, .int .i32 0, .int .i32 0, .int .i32 0, .int .i32 0, .int .i32 0, .int .i32 0, .int .i32 0, .int .i32 0, .int .i32 0, .int .i32 0, .int .i32 0, .int .i32 0, .int .i32 0, .int .i32 0, .int .i32 0, .int .i32 0, .int .i32 0, .int .i32 0, .int .i32 0, .int .i32 0] 27)).setCells W9.heap.size 0 (arr a).toList) = W8 at H8 ⊢
                              obtain ⟨r8, b8⟩ := H8.out
                              have M8 := hd (HMI.out.below b8 hlt9)
                              have R8 := hd r8
                              clear H8 r8 b8 HMI
                              obtain ⟨O, hO⟩ : ∃ O, O = W9.heap.size := ⟨_, rfl⟩
                              rw [← hO] at R8 hlt9 ⊢
                              clear hO
                              go_loopw [25] (fun i wr => ∃ j : Nat, j ≤ k ∧ i = .int .i64 j ∧ wr.rowIs O 27 53 (fun i => .int .i32 (mix j F a i)) ∧ Below O W8 wr) (fun i _ => k - (intOf i).toNat)
                              case atStart => exact ⟨0, Nat.zero_le _, rfl, R8.out.congr (fun i _ => by simp [mix]), Below.refl _ _⟩
                              case round =>
                                obtain ⟨j, hj, rfl, hr, hb⟩ := hrel
                                by_cases hlt2 : j < k
                                · have c1 : wr.cell? ⟨w.heap.size + 2, j, none⟩ = some (.int .i64 (F j)) := (hb.cell hlt9).trans (by rw [(M8.out.cell j (by omega)).1, HGF.out j hlt2])
                                  have c2 := hr.cell (i := j) (by omega)
                                  have c3 := hr.frozen j
                                  have f0 := HFG.out.nonneg j hlt2
                                  have f1 := HFG.out.le j hlt2
                                  have i1 : (j : Int) < 53 := by omega
                                  have HR := hd ((hr.set j (.int .i32 (F j))).congr (g := fun i => .int .i32 (mix (j + 1) F a i)) (fun i _ => by
                                    by_cases e : i = j
                                    · subst e; simp [mix]
                                    · by_cases e2 : i < j
                                      · simp [mix, e, e2, show i < j + 1 by omega]
                                      · simp [mix, e, e2, show ¬ i < j + 1 by omega]))
                                  have HB := hd (hb.setCell (p := ⟨O, j, none⟩) (Nat.le_refl _) (.int .i32 (F j)))
                                  clear hr hb
                                  go_wp2
                                  go_roundw
                                  case rel => exact ⟨j + 1, by omega, by go_num, HR.out, HB.out⟩
                                  case measure => simp [intOf]; omega
                                · have e : j = k := by omega
                                  subst e
                                  have hrg : wr.rangeAt O 0 (arr (mix j F a)).toList := by
                                    intro i v hv
                                    have hi : i < 53 := by have := (List.getElem?_eq_some_iff.1 hv).1; simpa [arr_size] using this
                                    rw [Array.getElem?_toList, arr_at _ i hi] at hv
                                    cases hv
                                    rw [Nat.zero_add]
                                    exact hr.cell hi
                                  have HRG := hd hrg
                                  have HTH := hd (M8.out.below hb hlt9).2.2.1
                                  have HBB := hd (M8.out.below hb hlt9).1
                                  clear hr hb hrg
                                  go_wp2_with (first | (refine wpList_load_mid rfl 27 _ rfl O 0 rfl (arr (mix j F a)).toList _ HRG.out Trym.underlying27 rfl arr_info ?_) | (refine wpList_store_mid rfl 27 _ _ rfl (w.heap.size + 1) 0 (arr (mix j F a)) rfl rfl HTH.out arr_info (arr_one _) ?_))
                                  refine bodyPost_ret (v := .agg (arr (mix j F a)).toList.toArray) (results_cell_mid rfl _ _ (w.heap.size + 1) (arr (mix j F a)).toList _ rfl (World.rangeAt_setCells_same _ _ _ _ HTH.out) Trym.underlying27 rfl arr_info) rfl ⟨by rw [← HFd.out], ?_⟩
                                  exact below_setCells (by omega) _ _ _ HBB.out
                            · have e : j = k := by omega
                              have HGF : Hid (∀ i, i < k → low6 g T k Mn j i = F i) := fun i hi => (low6_end (by omega) i hi).trans (HFin.out i hi)
                              have HMI := hd hE
                              obtain ⟨W9, rfl⟩ : ∃ W9, W9 = wr := ⟨_, rfl⟩
                              clear hE
                              have hlt9 := HMI.out.lt
                              go_wp2_with (first | (refine wpList_load_row rfl 27 _ rfl w.heap.size rfl 27 (arr a) (0, 0) _ HMI.out.2.1 Trym.underlying27 rfl arr_info ?_) | (refine wpList_store_mid rfl 27 (.tmp 24) _ rfl _ 0 (arr a) (by rfl) rfl (there_new _ _ _ _ (Nat.le_refl 53)) arr_info (arr_one a) ?_))
                              have H8 := hd (made27 W9 #[.int .i32 0, .int .i32 0, .int .i32 0, .int .i32 0, .int .i32 0, .int .i32 0, .int .i32 0, .int .i32 0, .int .i32 0, .int .i32 0, .int .i32 0, .int .i32 0, .int .i32 0, .int .i32 0, .int .i32 0, .int .i32 0, .int .i32 0, .int .i32 0, .int .i32 0, .int .i32 0, .int .i32 0, .int .i32 0, .int .i32 0, .int .i32 0, .int .i32 0, .int .i32 0, .int .i32 0, .int .i32 0, .int .i32 0, .int .i32 0, .int .i32 0, .int .i32 0, .int .i32 0, .int .i32 0, .int .i32 0, .int .i32 0, .int .i32 0, .int .i32 0, .int .i32 0, .int .i32 0, .int .i32 0, .int .i32 0, .int .i32 0, .int .i32 0, .int .i32 0, .int .i32 0, .int .i32 0, .int .i32 0, .int .i32 0, .int .i32 0, .int .i32 0, .int .i32 0, .int .i32 0] a rfl)
                              generalize ((W9.alloc (.cells #[.int .i32 0, .int .i32 0, .int .i32 0, .int .i32 0, .int .i32 0, .int .i32 0, .int .i32 0, .int .i32 0, .int .i32 0, .int .i32 0, .int .i32 0, .int .i32 0, .int .i32 0, .int .i32 0, .int .i32 0, .int .i32 0, .int .i32 0, .int .i32 0, .int .i32 0, .int .i32 0, .int .i32 0, .int .i32 0, .int .i32 0, .int .i32 0, .int .i32 0, .int .i32 0, .int .i32 0, .int .i32 0, .int .i32 0, .int .i32 0, .int .i32 0, .int .i32 0, .int .i32 0, .int .i32 0, .int .i32 0, .int .i32 0, .int .i32 0, .int .i32 0, .int .i32 0, .int .i32 0, .int .i32 0, .int .i32 0, .int .i32 0, .int .i32 0, .int .i32 0, .int .i32 0, .int .i32 0, .int .i32 0, .int .i32 0, .int .i32 0, .int .i32 0, .int .i32 0, .int .i32 0] 27)).setCells W9.heap.size 0 (arr a).toList) = W8 at H8 ⊢
                              obtain ⟨r8, b8⟩ := H8.out
                              have M8 := hd (HMI.out.below b8 hlt9)
                              have R8 := hd r8
                              clear H8 r8 b8 HMI
                              obtain ⟨O, hO⟩ : ∃ O, O = W9.heap.size := ⟨_, rfl⟩
                              rw [← hO] at R8 hlt9 ⊢
                              clear hO
                              go_loopw [25] (fun i wr => ∃ j : Nat, j ≤ k ∧ i = .int .i64 j ∧ wr.rowIs O 27 53 (fun i => .int .i32 (mix j F a i)) ∧ Below O W8 wr) (fun i _ => k - (intOf i).toNat)
                              case atStart => exact ⟨0, Nat.zero_le _, rfl, R8.out.congr (fun i _ => by simp [mix]), Below.refl _ _⟩
                              case round =>
                                obtain ⟨j, hj, rfl, hr, hb⟩ := hrel
                                by_cases hlt2 : j < k
                                · have c1 : wr.cell? ⟨w.heap.size + 2, j, none⟩ = some (.int .i64 (F j)) := (hb.cell hlt9).trans (by rw [(M8.out.cell j (by omega)).1, HGF.out j hlt2])
                                  have c2 := hr.cell (i := j) (by omega)
                                  have c3 := hr.frozen j
                                  have f0 := HFG.out.nonneg j hlt2
                                  have f1 := HFG.out.le j hlt2
                                  have i1 : (j : Int) < 53 := by omega
                                  have HR := hd ((hr.set j (.int .i32 (F j))).congr (g := fun i => .int .i32 (mix (j + 1) F a i)) (fun i _ => by
                                    by_cases e : i = j
                                    · subst e; simp [mix]
                                    · by_cases e2 : i < j
                                      · simp [mix, e, e2, show i < j + 1 by omega]
                                      · simp [mix, e, e2, show ¬ i < j + 1 by omega]))
                                  have HB := hd (hb.setCell (p := ⟨O, j, none⟩) (Nat.le_refl _) (.int .i32 (F j)))
                                  clear hr hb
                                  go_wp2
                                  go_roundw
                                  case rel => exact ⟨j + 1, by omega, by go_num, HR.out, HB.out⟩
                                  case measure => simp [intOf]; omega
                                · have e : j = k := by omega
                                  subst e
                                  have hrg : wr.rangeAt O 0 (arr (mix j F a)).toList := by
                                    intro i v hv
                                    have hi : i < 53 := by have := (List.getElem?_eq_some_iff.1 hv).1; simpa [arr_size] using this
                                    rw [Array.getElem?_toList, arr_at _ i hi] at hv
                                    cases hv
                                    rw [Nat.zero_add]
                                    exact hr.cell hi
                                  have HRG := hd hrg
                                  have HTH := hd (M8.out.below hb hlt9).2.2.1
                                  have HBB := hd (M8.out.below hb hlt9).1
                                  clear hr hb hrg
                                  go_wp2_with (first | (refine wpList_load_mid rfl 27 _ rfl O 0 rfl (arr (mix j F a)).toList _ HRG.out Trym.underlying27 rfl arr_info ?_) | (refine wpList_store_mid rfl 27 _ _ rfl (w.heap.size + 1) 0 (arr (mix j F a)) rfl rfl HTH.out arr_info (arr_one _) ?_))
                                  refine bodyPost_ret (v := .agg (arr (mix j F a)).toList.toArray) (results_cell_mid rfl _ _ (w.heap.size + 1) (arr (mix j F a)).toList _ rfl (World.rangeAt_setCells_same _ _ _ _ HTH.out) Trym.underlying27 rfl arr_info) rfl ⟨by rw [← HFd.out], ?_⟩
                                  exact below_setCells (by omega) _ _ _ HBB.out
                · have hx0 : excess g T k = 0 := excess_of_le k (fun i hi => by have := mx_max g k i hi; omega)
                  have hx : excess g T k ≤ S - Z := by omega
                  clear hx0
                  have hfit := level_fit (f := g) (n := k) (k := S - Z) (t := T) (by omega) (by rw [HSg.out]; omega) (fun i hi => (Hgb.out i hi).1) t1 hT.out hx
                  obtain ⟨Mn, hMn⟩ : ∃ Mn : Nat, Mn = (S - Z - excess g T k).toNat := ⟨_, rfl⟩
                  rw [← hMn] at hfit
                  have hMe : (Mn : Int) = S - Z - excess g T k := by omega
                  have HFin : Hid (∀ i, i < k → lvl g T Mn i = F i) := fun i hi => by
                    rw [HFd.out]
                    unfold normOf
                    rw [← HS.out, if_neg (by omega), dec_congr hnp (fun i hi => (Hgs.out i hi).symm) _ i hi]
                    exact (dec_level hnp _ T Mn hfit (by omega) i hi).symm
                  have HMe := hd hMe
                  clear hMn hfit hMe
                  go_wp2_with (first | go_big_skip | (refine wpList_load_row rfl 52 _ rfl (w.heap.size + 2) rfl 52 (arr64 g) (0, 0) _ (by first | with_reducible exact L1.out | with_reducible exact L2.out) Trym.underlying52 rfl arr64_info ?_) | (go_at_call 25; refine (excess25 g k T _ hn t0 (by omega) HB2.out).mono ?_; rintro e w' ⟨rfl, rfl⟩))
                  have hMe2 : (Mn : Int) ≤ 53 := by have := HMe.out; omega
                  go_loopw [22] (fun i wr => ∃ j : Nat, j ≤ k ∧ i = .int .i64 j ∧ MInv w a (cut5 g T j) wr) (fun i _ => k - (intOf i).toNat)
                  case atStart => exact ⟨0, Nat.zero_le _, rfl, (by first | exact (HE.out.alloc _) | exact ((HE.out.alloc _).alloc _) : MInv w a g _).congr (fun i _ => by simp [cut5])⟩
                  case round =>
                    obtain ⟨j, hj, rfl, hE⟩ := hrel
                    by_cases hlt2 : j < k
                    · have e1 := (hE.cell j (by omega)).1
                      rw [show cut5 g T j j = g j from by simp [cut5]] at e1
                      have e2 := (hE.cell j (by omega)).2
                      have gb := Hgb.out j hlt2
                      have i1 : (j : Int) < 53 := by omega
                      by_cases c : T < g j
                      · have HN := hd ((hE.set j T).congr (cut5_yes c))
                        clear hE
                        go_wp2
                        go_roundw
                        case rel => exact ⟨j + 1, by omega, by go_num, HN.out⟩
                        case measure => simp [intOf]; omega
                      · have HN := hd (hE.congr (cut5_no c))
                        clear hE
                        go_wp2
                        go_roundw
                        case rel => exact ⟨j + 1, by omega, by go_num, HN.out⟩
                        case measure => simp [intOf]; omega
                    · have e : k = j := by omega
                      subst e
                      have HE5 := hd hE
                      clear hE HE
                      go_wp2
                      go_loopw [21, 23] (fun m i wr => ∃ j : Nat, j ≤ k ∧ i = .int .i64 j ∧ cnt g T j ≤ Mn ∧ m = .int .i64 ((Mn : Int) - (cnt g T j : Nat)) ∧ MInv w a (low6 g T k Mn j) wr) (fun _ i _ => k - (intOf i).toNat)
                      case atStart => exact ⟨0, Nat.zero_le _, rfl, Nat.zero_le _, by rw [show S - Z - excess g T k = (Mn : Int) - (cnt g T 0 : Nat) by have := HMe.out; simp only [cnt]; omega], HE5.out.congr (fun i _ => by simp [low6])⟩
                      case round =>
                        obtain ⟨j, hj, rfl, hcm, rfl, hE⟩ := hrel
                        by_cases hex : j < k ∧ cnt g T j < Mn
                        · obtain ⟨hlt2, hmm⟩ := hex
                          have e1 := (hE.cell j (by omega)).1
                          have e2 := (hE.cell j (by omega)).2
                          have gb := Hgb.out j hlt2
                          have i1 : (j : Int) < 53 := by omega
                          have i2 : (0 : Int) < (Mn : Int) - (cnt g T j : Nat) := by omega
                          have e3 : low6 g T k Mn j j = min (g j) T := by unfold low6 cut5; rw [if_neg (by omega), if_pos hlt2]
                          by_cases c : T ≤ g j
                          · rw [e3, show min (g j) T = T by omega] at e1
                            have HN := hd ((hE.set j (T - 1)).congr (low6_yes c hmm))
                            have HX : Hid (cnt g T (j + 1) = cnt g T j + 1) := by show _ = _; rw [cnt_succ, if_pos c]
                            clear hE e3
                            go_wp2
                            go_roundw
                            case rel => exact ⟨j + 1, by omega, by go_num, by rw [HX.out]; omega, by rw [HX.out, show (Mn : Int) - ((cnt g T j + 1 : Nat) : Int) = (Mn : Int) - (cnt g T j : Nat) - 1 by omega], HN.out⟩
                            case measure => simp [intOf]; omega
                          · rw [e3, show min (g j) T = g j by omega] at e1
                            have HN := hd (hE.congr (low6_no hlt2 c))
                            have HX : Hid (cnt g T (j + 1) = cnt g T j) := by show _ = _; rw [cnt_succ, if_neg c]; rfl
                            have ne : (g j == T) = false := by rw [beq_eq_false_iff_ne]; omega
                            clear hE e3
                            go_wp2
                            go_roundw
                            case rel => exact ⟨j + 1, by omega, by go_num, by rw [HX.out]; omega, by rw [HX.out], HN.out⟩
                            case measure => simp [intOf]; omega
                        · by_cases hlt2 : j < k
                          · have i2 : (Mn : Int) - (cnt g T j : Nat) ≤ 0 := by omega
                            have i3 : (Mn : Int) - (cnt g T j : Nat) = 0 := by omega
                            have HGF : Hid (∀ i, i < k → low6 g T k Mn j i = F i) := fun i hi => (low6_end (by omega) i hi).trans (HFin.out i hi)
                            have HMI := hd hE
                            obtain ⟨W9, rfl⟩ : ∃ W9, W9 = wr := ⟨_, rfl⟩
                            clear hE
                            have hlt9 := HMI.out.lt
                            go_wp2_with (first | (refine wpList_load_row rfl 27 _ rfl w.heap.size rfl 27 (arr a) (0, 0) _ HMI.out.2.1 Trym.underlying27 rfl arr_info ?_) | (refine wpList_store_mid rfl 27 (.tmp 24) _ rfl _ 0 (arr a) (by rfl) rfl (there_new _ _ _ _ (Nat.le_refl 53)) arr_info (arr_one a) ?_))
                            have H8 := hd (made27 W9 #[.int .i32 0, .int .i32 0, .int .i32 0, .int .i32 0, .int .i32 0, .int .i32 0, .int .i32 0, .int .i32 0, .int .i32 0, .int .i32 0, .int .i32 0, .int .i32 0, .int .i32 0, .int .i32 0, .int .i32 0, .int .i32 0, .int .i32 0, .int .i32 0, .int .i32 0, .int .i32 0, .int .i32 0, .int .i32 0, .int .i32 0, .int .i32 0, .int .i32 0, .int .i32 0, .int .i32 0, .int .i32 0, .int .i32 0, .int .i32 0, .int .i32 0, .int .i32 0, .int .i32 0, .int .i32 0, .int .i32 0, .int .i32 0, .int .i32 0, .int .i32 0, .int .i32 0, .int .i32 0, .int .i32 0, .int .i32 0, .int .i32 0, .int .i32 0, .int .i32 0, .int .i32 0, .int .i32 0, .int .i32 0, .int .i32 0, .int .i32 0, .int .i32 0, .int .i32 0, .int .i32 0] a rfl)
                            generalize ((W9.alloc (.cells #[.int .i32 0, .int .i32 0, .int .i32 0, .int .i32 0, .int .i32 0, .int .i32 0, .int .i32 0, .int .i32 0, .int .i32 0, .int .i32 0, .int .i32 0, .int .i32 0, .int .i32 0, .int .i32 0, .int .i32 0, .int .i32 0, .int .i32 0, .int .i32 0, .int .i32 0, .int .i32 0, .int .i32 0, .int .i32 0, .int .i32 0, .int .i32 0, .int .i32 0, .int .i32 0, .int .i32 0, .int .i32 0, .int .i32 0, .int .i32 0, .int .i32 0, .int .i32 0, .int .i32 0, .int .i32 0, .int .i32 0, .int .i32 0, .int .i32 0, .int .i32 0, .int .i32 0, .int .i32 0, .int .i32 0, .int .i32 0, .int .i32 0, .int .i32 0, .int .i32 0, .int .i32 0, .int .i32 0, .int .i32 0, .int .i32 0, .int .i32 0, .int .i32 0, .int .i32 0, .int .i32 0] 27)).setCells W9.heap.size 0 (arr a).toList) = W8 at H8 ⊢
                            obtain ⟨r8, b8⟩ := H8.out
                            have M8 := hd (HMI.out.below b8 hlt9)
                            have R8 := hd r8
                            clear H8 r8 b8 HMI
                            obtain ⟨O, hO⟩ : ∃ O, O = W9.heap.size := ⟨_, rfl⟩
                            rw [← hO] at R8 hlt9 ⊢
                            clear hO
                            go_loopw [25] (fun i wr => ∃ j : Nat, j ≤ k ∧ i = .int .i64 j ∧ wr.rowIs O 27 53 (fun i => .int .i32 (mix j F a i)) ∧ Below O W8 wr) (fun i _ => k - (intOf i).toNat)
                            case atStart => exact ⟨0, Nat.zero_le _, rfl, R8.out.congr (fun i _ => by simp [mix]), Below.refl _ _⟩
                            case round =>
                              obtain ⟨j, hj, rfl, hr, hb⟩ := hrel
                              by_cases hlt2 : j < k
                              · have c1 : wr.cell? ⟨w.heap.size + 2, j, none⟩ = some (.int .i64 (F j)) := (hb.cell hlt9).trans (by rw [(M8.out.cell j (by omega)).1, HGF.out j hlt2])
                                have c2 := hr.cell (i := j) (by omega)
                                have c3 := hr.frozen j
                                have f0 := HFG.out.nonneg j hlt2
                                have f1 := HFG.out.le j hlt2
                                have i1 : (j : Int) < 53 := by omega
                                have HR := hd ((hr.set j (.int .i32 (F j))).congr (g := fun i => .int .i32 (mix (j + 1) F a i)) (fun i _ => by
                                  by_cases e : i = j
                                  · subst e; simp [mix]
                                  · by_cases e2 : i < j
                                    · simp [mix, e, e2, show i < j + 1 by omega]
                                    · simp [mix, e, e2, show ¬ i < j + 1 by omega]))
                                have HB := hd (hb.setCell (p := ⟨O, j, none⟩) (Nat.le_refl _) (.int .i32 (F j)))
                                clear hr hb
                                go_wp2
                                go_roundw
                                case rel => exact ⟨j + 1, by omega, by go_num, HR.out, HB.out⟩
                                case measure => simp [intOf]; omega
                              · have e : j = k := by omega
                                subst e
                                have hrg : wr.rangeAt O 0 (arr (mix j F a)).toList := by
                                  intro i v hv
                                  have hi : i < 53 := by have := (List.getElem?_eq_some_iff.1 hv).1; simpa [arr_size] using this
                                  rw [Array.getElem?_toList, arr_at _ i hi] at hv
                                  cases hv
                                  rw [Nat.zero_add]
                                  exact hr.cell hi
                                have HRG := hd hrg
                                have HTH := hd (M8.out.below hb hlt9).2.2.1
                                have HBB := hd (M8.out.below hb hlt9).1
                                clear hr hb hrg
                                go_wp2_with (first | (refine wpList_load_mid rfl 27 _ rfl O 0 rfl (arr (mix j F a)).toList _ HRG.out Trym.underlying27 rfl arr_info ?_) | (refine wpList_store_mid rfl 27 _ _ rfl (w.heap.size + 1) 0 (arr (mix j F a)) rfl rfl HTH.out arr_info (arr_one _) ?_))
                                refine bodyPost_ret (v := .agg (arr (mix j F a)).toList.toArray) (results_cell_mid rfl _ _ (w.heap.size + 1) (arr (mix j F a)).toList _ rfl (World.rangeAt_setCells_same _ _ _ _ HTH.out) Trym.underlying27 rfl arr_info) rfl ⟨by rw [← HFd.out], ?_⟩
                                exact below_setCells (by omega) _ _ _ HBB.out
                          · have e : j = k := by omega
                            have HGF : Hid (∀ i, i < k → low6 g T k Mn j i = F i) := fun i hi => (low6_end (by omega) i hi).trans (HFin.out i hi)
                            have HMI := hd hE
                            obtain ⟨W9, rfl⟩ : ∃ W9, W9 = wr := ⟨_, rfl⟩
                            clear hE
                            have hlt9 := HMI.out.lt
                            go_wp2_with (first | (refine wpList_load_row rfl 27 _ rfl w.heap.size rfl 27 (arr a) (0, 0) _ HMI.out.2.1 Trym.underlying27 rfl arr_info ?_) | (refine wpList_store_mid rfl 27 (.tmp 24) _ rfl _ 0 (arr a) (by rfl) rfl (there_new _ _ _ _ (Nat.le_refl 53)) arr_info (arr_one a) ?_))
                            have H8 := hd (made27 W9 #[.int .i32 0, .int .i32 0, .int .i32 0, .int .i32 0, .int .i32 0, .int .i32 0, .int .i32 0, .int .i32 0, .int .i32 0, .int .i32 0, .int .i32 0, .int .i32 0, .int .i32 0, .int .i32 0, .int .i32 0, .int .i32 0, .int .i32 0, .int .i32 0, .int .i32 0, .int .i32 0, .int .i32 0, .int .i32 0, .int .i32 0, .int .i32 0, .int .i32 0, .int .i32 0, .int .i32 0, .int .i32 0, .int .i32 0, .int .i32 0, .int .i32 0, .int .i32 0, .int .i32 0, .int .i32 0, .int .i32 0, .int .i32 0, .int .i32 0, .int .i32 0, .int .i32 0, .int .i32 0, .int .i32 0, .int .i32 0, .int .i32 0, .int .i32 0, .int .i32 0, .int .i32 0, .int .i32 0, .int .i32 0, .int .i32 0, .int .i32 0, .int .i32 0, .int .i32 0, .int .i32 0] a rfl)
                            generalize ((W9.alloc (.cells #[.int .i32 0, .int .i32 0, .int .i32 0, .int .i32 0, .int .i32 0, .int .i32 0, .int .i32 0, .int .i32 0, .int .i32 0, .int .i32 0, .int .i32 0, .int .i32 0, .int .i32 0, .int .i32 0, .int .i32 0, .int .i32 0, .int .i32 0, .int .i32 0, .int .i32 0, .int .i32 0, .int .i32 0, .int .i32 0, .int .i32 0, .int .i32 0, .int .i32 0, .int .i32 0, .int .i32 0, .int .i32 0, .int .i32 0, .int .i32 0, .int .i32 0, .int .i32 0, .int .i32 0, .int .i32 0, .int .i32 0, .int .i32 0, .int .i32 0, .int .i32 0, .int .i32 0, .int .i32 0, .int .i32 0, .int .i32 0, .int .i32 0, .int .i32 0, .int .i32 0, .int .i32 0, .int .i32 0, .int .i32 0, .int .i32 0, .int .i32 0, .int .i32 0, .int .i32 0, .int .i32 0] 27)).setCells W9.heap.size 0 (arr a).toList) = W8 at H8 ⊢
                            obtain ⟨r8, b8⟩ := H8.out
                            have M8 := hd (HMI.out.below b8 hlt9)
                            have R8 := hd r8
                            clear H8 r8 b8 HMI
                            obtain ⟨O, hO⟩ : ∃ O, O = W9.heap.size := ⟨_, rfl⟩
                            rw [← hO] at R8 hlt9 ⊢
                            clear hO
                            go_loopw [25] (fun i wr => ∃ j : Nat, j ≤ k ∧ i = .int .i64 j ∧ wr.rowIs O 27 53 (fun i => .int .i32 (mix j F a i)) ∧ Below O W8 wr) (fun i _ => k - (intOf i).toNat)
                            case atStart => exact ⟨0, Nat.zero_le _, rfl, R8.out.congr (fun i _ => by simp [mix]), Below.refl _ _⟩
                            case round =>
                              obtain ⟨j, hj, rfl, hr, hb⟩ := hrel
                              by_cases hlt2 : j < k
                              · have c1 : wr.cell? ⟨w.heap.size + 2, j, none⟩ = some (.int .i64 (F j)) := (hb.cell hlt9).trans (by rw [(M8.out.cell j (by omega)).1, HGF.out j hlt2])
                                have c2 := hr.cell (i := j) (by omega)
                                have c3 := hr.frozen j
                                have f0 := HFG.out.nonneg j hlt2
                                have f1 := HFG.out.le j hlt2
                                have i1 : (j : Int) < 53 := by omega
                                have HR := hd ((hr.set j (.int .i32 (F j))).congr (g := fun i => .int .i32 (mix (j + 1) F a i)) (fun i _ => by
                                  by_cases e : i = j
                                  · subst e; simp [mix]
                                  · by_cases e2 : i < j
                                    · simp [mix, e, e2, show i < j + 1 by omega]
                                    · simp [mix, e, e2, show ¬ i < j + 1 by omega]))
                                have HB := hd (hb.setCell (p := ⟨O, j, none⟩) (Nat.le_refl _) (.int .i32 (F j)))
                                clear hr hb
                                go_wp2
                                go_roundw
                                case rel => exact ⟨j + 1, by omega, by go_num, HR.out, HB.out⟩
                                case measure => simp [intOf]; omega
                              · have e : j = k := by omega
                                subst e
                                have hrg : wr.rangeAt O 0 (arr (mix j F a)).toList := by
                                  intro i v hv
                                  have hi : i < 53 := by have := (List.getElem?_eq_some_iff.1 hv).1; simpa [arr_size] using this
                                  rw [Array.getElem?_toList, arr_at _ i hi] at hv
                                  cases hv
                                  rw [Nat.zero_add]
                                  exact hr.cell hi
                                have HRG := hd hrg
                                have HTH := hd (M8.out.below hb hlt9).2.2.1
                                have HBB := hd (M8.out.below hb hlt9).1
                                clear hr hb hrg
                                go_wp2_with (first | (refine wpList_load_mid rfl 27 _ rfl O 0 rfl (arr (mix j F a)).toList _ HRG.out Trym.underlying27 rfl arr_info ?_) | (refine wpList_store_mid rfl 27 _ _ rfl (w.heap.size + 1) 0 (arr (mix j F a)) rfl rfl HTH.out arr_info (arr_one _) ?_))
                                refine bodyPost_ret (v := .agg (arr (mix j F a)).toList.toArray) (results_cell_mid rfl _ _ (w.heap.size + 1) (arr (mix j F a)).toList _ rfl (World.rangeAt_setCells_same _ _ _ _ HTH.out) Trym.underlying27 rfl arr_info) rfl ⟨by rw [← HFd.out], ?_⟩
                                exact below_setCells (by omega) _ _ _ HBB.out
            · go_wp2
              go_loopw [20] (fun t wr => ∃ T : Int, 0 ≤ T ∧ T ≤ mx g k ∧ t = .int .i64 T ∧ Hid (T = max (mx g k - (S - Z)) 0 ∨ S - Z < excess g (T - 1) k) ∧ MInv w a g wr) (fun t _ => (mx g k - intOf t).toNat)
              case atStart => exact ⟨(mx g k - (S - Z)), by omega, by omega, rfl, Or.inl (by omega), HMI.out⟩
              case round =>
                clear ct
                obtain ⟨T, t0, t1, rfl, hT, hE⟩ := hrel
                have e0 := excess_nonneg g T k
                have e9 := excess_bd (f := g) t0 k (fun i hi => (HB2.out i (by omega)).2)
                have HE := hd hE
                clear hE HMI
                have L1 := hd HE.out.pick.2
                have L2 := hd (HE.out.alloc (.cells (arr64 g) 52)).pick.2
                by_cases c1 : T < mx g k
                · by_cases c2 : S - Z < excess g T k
                  · go_wp2_with (first | (refine wpList_load_row rfl 52 _ rfl (w.heap.size + 2) rfl 52 (arr64 g) (0, 0) _ (by first | with_reducible exact L1.out | with_reducible exact L2.out) Trym.underlying52 rfl arr64_info ?_) | (refine wpList_load_row_g (by rfl) 52 _ rfl (w.heap.size + 2) rfl 52 (arr64 g) (0, 0) _ (by first | with_reducible exact L1.out | with_reducible exact L2.out) Trym.underlying52 rfl arr64_info ?_) | (go_at_call 25; refine (excess25 g k T _ hn t0 (by omega) HB2.out).mono ?_; rintro e w' ⟨rfl, rfl⟩))
                    go_roundw
                    case rel => exact ⟨T + 1, by omega, by omega, rfl, Or.inr (by rw [show T + 1 - 1 = T by omega]; exact c2), HE.out.alloc _⟩
                    case measure => simp [intOf]; omega
                  · have hx : excess g T k ≤ S - Z := by omega
                    have hfit := level_fit (f := g) (n := k) (k := S - Z) (t := T) (by omega) (by rw [HSg.out]; omega) (fun i hi => (Hgb.out i hi).1) t1 hT.out hx
                    obtain ⟨Mn, hMn⟩ : ∃ Mn : Nat, Mn = (S - Z - excess g T k).toNat := ⟨_, rfl⟩
                    rw [← hMn] at hfit
                    have hMe : (Mn : Int) = S - Z - excess g T k := by omega
                    have HFin : Hid (∀ i, i < k → lvl g T Mn i = F i) := fun i hi => by
                      rw [HFd.out]
                      unfold normOf
                      rw [← HS.out, if_neg (by omega), dec_congr hnp (fun i hi => (Hgs.out i hi).symm) _ i hi]
                      exact (dec_level hnp _ T Mn hfit (by omega) i hi).symm
                    have HMe := hd hMe
                    clear hMn hfit hMe
                    go_wp2_with (first | (refine wpList_load_row rfl 52 _ rfl (w.heap.size + 2) rfl 52 (arr64 g) (0, 0) _ (by first | with_reducible exact L1.out | with_reducible exact L2.out) Trym.underlying52 rfl arr64_info ?_) | (refine wpList_load_row_g (by rfl) 52 _ rfl (w.heap.size + 2) rfl 52 (arr64 g) (0, 0) _ (by first | with_reducible exact L1.out | with_reducible exact L2.out) Trym.underlying52 rfl arr64_info ?_) | (go_at_call 25; refine (excess25 g k T _ hn t0 (by omega) HB2.out).mono ?_; rintro e w' ⟨rfl, rfl⟩))
                    have hMe2 : (Mn : Int) ≤ 53 := by have := HMe.out; omega
                    go_loopw [22] (fun i wr => ∃ j : Nat, j ≤ k ∧ i = .int .i64 j ∧ MInv w a (cut5 g T j) wr) (fun i _ => k - (intOf i).toNat)
                    case atStart => exact ⟨0, Nat.zero_le _, rfl, (by first | exact (HE.out.alloc _) | exact ((HE.out.alloc _).alloc _) : MInv w a g _).congr (fun i _ => by simp [cut5])⟩
                    case round =>
                      obtain ⟨j, hj, rfl, hE⟩ := hrel
                      by_cases hlt2 : j < k
                      · have e1 := (hE.cell j (by omega)).1
                        rw [show cut5 g T j j = g j from by simp [cut5]] at e1
                        have e2 := (hE.cell j (by omega)).2
                        have gb := Hgb.out j hlt2
                        have i1 : (j : Int) < 53 := by omega
                        by_cases c : T < g j
                        · have HN := hd ((hE.set j T).congr (cut5_yes c))
                          clear hE
                          go_wp2
                          go_roundw
                          case rel => exact ⟨j + 1, by omega, by go_num, HN.out⟩
                          case measure => simp [intOf]; omega
                        · have HN := hd (hE.congr (cut5_no c))
                          clear hE
                          go_wp2
                          go_roundw
                          case rel => exact ⟨j + 1, by omega, by go_num, HN.out⟩
                          case measure => simp [intOf]; omega
                      · have e : k = j := by omega
                        subst e
                        have HE5 := hd hE
                        clear hE HE
                        go_wp2
                        go_loopw [21, 23] (fun m i wr => ∃ j : Nat, j ≤ k ∧ i = .int .i64 j ∧ cnt g T j ≤ Mn ∧ m = .int .i64 ((Mn : Int) - (cnt g T j : Nat)) ∧ MInv w a (low6 g T k Mn j) wr) (fun _ i _ => k - (intOf i).toNat)
                        case atStart => exact ⟨0, Nat.zero_le _, rfl, Nat.zero_le _, by rw [show S - Z - excess g T k = (Mn : Int) - (cnt g T 0 : Nat) by have := HMe.out; simp only [cnt]; omega], HE5.out.congr (fun i _ => by simp [low6])⟩
                        case round =>
                          obtain ⟨j, hj, rfl, hcm, rfl, hE⟩ := hrel
                          by_cases hex : j < k ∧ cnt g T j < Mn
                          · obtain ⟨hlt2, hmm⟩ := hex
                            have e1 := (hE.cell j (by omega)).1
                            have e2 := (hE.cell j (by omega)).2
                            have gb := Hgb.out j hlt2
                            have i1 : (j : Int) < 53 := by omega
                            have i2 : (0 : Int) < (Mn : Int) - (cnt g T j : Nat) := by omega
                            have e3 : low6 g T k Mn j j = min (g j) T := by unfold low6 cut5; rw [if_neg (by omega), if_pos hlt2]
                            by_cases c : T ≤ g j
                            · rw [e3, show min (g j) T = T by omega] at e1
                              have HN := hd ((hE.set j (T - 1)).congr (low6_yes c hmm))
                              have HX : Hid (cnt g T (j + 1) = cnt g T j + 1) := by show _ = _; rw [cnt_succ, if_pos c]
                              clear hE e3
                              go_wp2
                              go_roundw
                              case rel => exact ⟨j + 1, by omega, by go_num, by rw [HX.out]; omega, by rw [HX.out, show (Mn : Int) - ((cnt g T j + 1 : Nat) : Int) = (Mn : Int) - (cnt g T j : Nat) - 1 by omega], HN.out⟩
                              case measure => simp [intOf]; omega
                            · rw [e3, show min (g j) T = g j by omega] at e1
                              have HN := hd (hE.congr (low6_no hlt2 c))
                              have HX : Hid (cnt g T (j + 1) = cnt g T j) := by show _ = _; rw [cnt_succ, if_neg c]; rfl
                              have ne : (g j == T) = false := by rw [beq_eq_false_iff_ne]; omega
                              clear hE e3
                              go_wp2
                              go_roundw
                              case rel => exact ⟨j + 1, by omega, by go_num, by rw [HX.out]; omega, by rw [HX.out], HN.out⟩
                              case measure => simp [intOf]; omega
                          · by_cases hlt2 : j < k
                            · have i2 : (Mn : Int) - (cnt g T j : Nat) ≤ 0 := by omega
                              have i3 : (Mn : Int) - (cnt g T j : Nat) = 0 := by omega
                              have HGF : Hid (∀ i, i < k → low6 g T k Mn j i = F i) := fun i hi => (low6_end (by omega) i hi).trans (HFin.out i hi)
                              have HMI := hd hE
                              obtain ⟨W9, rfl⟩ : ∃ W9, W9 = wr := ⟨_, rfl⟩
                              clear hE
                              have hlt9 := HMI.out.lt
                              go_wp2_with (first | (refine wpList_load_row rfl 27 _ rfl w.heap.size rfl 27 (arr a) (0, 0) _ HMI.out.2.1 Trym.underlying27 rfl arr_info ?_) | (refine wpList_store_mid rfl 27 (.tmp 24) _ rfl _ 0 (arr a) (by rfl) rfl (there_new _ _ _ _ (Nat.le_refl 53)) arr_info (arr_one a) ?_))
                              have H8 := hd (made27 W9 #[.int .i32 0, .int .i32 0, .int .i32 0, .int .i32 0, .int .i32 0, .int .i32 0, .int .i32 0, .int .i32 0, .int .i32 0, .int .i32 0, .int .i32 0, .int .i32 0, .int .i32 0, .int .i32 0, .int .i32 0, .int .i32 0, .int .i32 0, .int .i32 0, .int .i32 0, .int .i32 0, .int .i32 0, .int .i32 0, .int .i32 0, .int .i32 0, .int .i32 0, .int .i32 0, .int .i32 0, .int .i32 0, .int .i32 0, .int .i32 0, .int .i32 0, .int .i32 0, .int .i32 0, .int .i32 0, .int .i32 0, .int .i32 0, .int .i32 0, .int .i32 0, .int .i32 0, .int .i32 0, .int .i32 0, .int .i32 0, .int .i32 0, .int .i32 0, .int .i32 0, .int .i32 0, .int .i32 0, .int .i32 0, .int .i32 0, .int .i32 0, .int .i32 0, .int .i32 0, .int .i32 0] a rfl)
                              generalize ((W9.alloc (.cells #[.int .i32 0, .int .i32 0, .int .i32 0, .int .i32 0, .int .i32 0, .int .i32 0, .int .i32 0, .int .i32 0, .int .i32 0, .int .i32 0, .int .i32 0, .int .i32 0, .int .i32 0, .int .i32 0, .int .i32 0, .int .i32 0, .int .i32 0, .int .i32 0, .int .i32 0, .int .i32 0, .int .i32 0, .int .i32 0, .int .i32 0, .int .i32 0, .int .i32 0, .int .i32 0, .int .i32 0, .int .i32 0, .int .i32 0, .int .i32 0, .int .i32 0, .int .i32 0, .int .i32 0, .int .i32 0, .int .i32 0, .int .i32 0, .int .i32 0, .int .i32 0, .int .i32 0, .int .i32 0, .int .i32 0, .int .i32 0, .int .i32 0, .int .i32 0, .int .i32 0, .int .i32 0, .int .i32 0, .int .i32 0, .int .i32 0, .int .i32 0, .int .i32 0, .int .i32 0, .int .i32 0] 27)).setCells W9.heap.size 0 (arr a).toList) = W8 at H8 ⊢
                              obtain ⟨r8, b8⟩ := H8.out
                              have M8 := hd (HMI.out.below b8 hlt9)
                              have R8 := hd r8
                              clear H8 r8 b8 HMI
                              obtain ⟨O, hO⟩ : ∃ O, O = W9.heap.size := ⟨_, rfl⟩
                              rw [← hO] at R8 hlt9 ⊢
                              clear hO
                              go_loopw [25] (fun i wr => ∃ j : Nat, j ≤ k ∧ i = .int .i64 j ∧ wr.rowIs O 27 53 (fun i => .int .i32 (mix j F a i)) ∧ Below O W8 wr) (fun i _ => k - (intOf i).toNat)
                              case atStart => exact ⟨0, Nat.zero_le _, rfl, R8.out.congr (fun i _ => by simp [mix]), Below.refl _ _⟩
                              case round =>
                                obtain ⟨j, hj, rfl, hr, hb⟩ := hrel
                                by_cases hlt2 : j < k
                                · have c1 : wr.cell? ⟨w.heap.size + 2, j, none⟩ = some (.int .i64 (F j)) := (hb.cell hlt9).trans (by rw [(M8.out.cell j (by omega)).1, HGF.out j hlt2])
                                  have c2 := hr.cell (i := j) (by omega)
                                  have c3 := hr.frozen j
                                  have f0 := HFG.out.nonneg j hlt2
                                  have f1 := HFG.out.le j hlt2
                                  have i1 : (j : Int) < 53 := by omega
                                  have HR := hd ((hr.set j (.int .i32 (F j))).congr (g := fun i => .int .i32 (mix (j + 1) F a i)) (fun i _ => by
                                    by_cases e : i = j
                                    · subst e; simp [mix]
                                    · by_cases e2 : i < j
                                      · simp [mix, e, e2, show i < j + 1 by omega]
                                      · simp [mix, e, e2, show ¬ i < j + 1 by omega]))
                                  have HB := hd (hb.setCell (p := ⟨O, j, none⟩) (Nat.le_refl _) (.int .i32 (F j)))
                                  clear hr hb
                                  go_wp2
                                  go_roundw
                                  case rel => exact ⟨j + 1, by omega, by go_num, HR.out, HB.out⟩
                                  case measure => simp [intOf]; omega
                                · have e : j = k := by omega
                                  subst e
                                  have hrg : wr.rangeAt O 0 (arr (mix j F a)).toList := by
                                    intro i v hv
                                    have hi : i < 53 := by have := (List.getElem?_eq_some_iff.1 hv).1; simpa [arr_size] using this
                                    rw [Array.getElem?_toList, arr_at _ i hi] at hv
                                    cases hv
                                    rw [Nat.zero_add]
                                    exact hr.cell hi
                                  have HRG := hd hrg
                                  have HTH := hd (M8.out.below hb hlt9).2.2.1
                                  have HBB := hd (M8.out.below hb hlt9).1
                                  clear hr hb hrg
                                  go_wp2_with (first | (refine wpList_load_mid rfl 27 _ rfl O 0 rfl (arr (mix j F a)).toList _ HRG.out Trym.underlying27 rfl arr_info ?_) | (refine wpList_store_mid rfl 27 _ _ rfl (w.heap.size + 1) 0 (arr (mix j F a)) rfl rfl HTH.out arr_info (arr_one _) ?_))
                                  refine bodyPost_ret (v := .agg (arr (mix j F a)).toList.toArray) (results_cell_mid rfl _ _ (w.heap.size + 1) (arr (mix j F a)).toList _ rfl (World.rangeAt_setCells_same _ _ _ _ HTH.out) Trym.underlying27 rfl arr_info) rfl ⟨by rw [← HFd.out], ?_⟩
                                  exact below_setCells (by omega) _ _ _ HBB.out
                            · have e : j = k := by omega
                              have HGF : Hid (∀ i, i < k → low6 g T k Mn j i = F i) := fun i hi => (low6_end (by omega) i hi).trans (HFin.out i hi)
                              have HMI := hd hE
                              obtain ⟨W9, rfl⟩ : ∃ W9, W9 = wr := ⟨_, rfl⟩
                              clear hE
                              have hlt9 := HMI.out.lt
                              go_wp2_with (first | (refine wpList_load_row rfl 27 _ rfl w.heap.size rfl 27 (arr a) (0, 0) _ HMI.out.2.1 Trym.underlying27 rfl arr_info ?_) | (refine wpList_store_mid rfl 27 (.tmp 24) _ rfl _ 0 (arr a) (by rfl) rfl (there_new _ _ _ _ (Nat.le_refl 53)) arr_info (arr_one a) ?_))
                              have H8 := hd (made27 W9 #[.int .i32 0, .int .i32 0, .int .i32 0, .int .i32 0, .int .i32 0, .int .i32 0, .int .i32 0, .int .i32 0, .int .i32 0, .int .i32 0, .int .i32 0, .int .i32 0, .int .i32 0, .int .i32 0, .int .i32 0, .int .i32 0, .int .i32 0, .int .i32 0, .int .i32 0, .int .i32 0, .int .i32 0, .int .i32 0, .int .i32 0, .int .i32 0, .int .i32 0, .int .i32 0, .int .i32 0, .int .i32 0, .int .i32 0, .int .i32 0, .int .i32 0, .int .i32 0, .int .i32 0, .int .i32 0, .int .i32 0, .int .i32 0, .int .i32 0, .int .i32 0, .int .i32 0, .int .i32 0, .int .i32 0, .int .i32 0, .int .i32 0, .int .i32 0, .int .i32 0, .int .i32 0, .int .i32 0, .int .i32 0, .int .i32 0, .int .i32 0, .int .i32 0, .int .i32 0, .int .i32 0] a rfl)
                              generalize ((W9.alloc (.cells #[.int .i32 0, .int .i32 0, .int .i32 0, .int .i32 0, .int .i32 0, .int .i32 0, .int .i32 0, .int .i32 0, .int .i32 0, .int .i32 0, .int .i32 0, .int .i32 0, .int .i32 0, .int .i32 0, .int .i32 0, .int .i32 0, .int .i32 0, .int .i32 0, .int .i32 0, .int .i32 0, .int .i32 0, .int .i32 0, .int .i32 0, .int .i32 0, .int .i32 0, .int .i32 0, .int .i32 0, .int .i32 0, .int .i32 0, .int .i32 0, .int .i32 0, .int .i32 0, .int .i32 0, .int .i32 0, .int .i32 0, .int .i32 0, .int .i32 0, .int .i32 0, .int .i32 0, .int .i32 0, .int .i32 0, .int .i32 0, .int .i32 0, .int .i32 0, .int .i32 0, .int .i32 0, .int .i32 0, .int .i32 0, .int .i32 0, .int .i32 0, .int .i32 0, .int .i32 0, .int .i32 0] 27)).setCells W9.heap.size 0 (arr a).toList) = W8 at H8 ⊢
                              obtain ⟨r8, b8⟩ := H8.out
                              have M8 := hd (HMI.out.below b8 hlt9)
                              have R8 := hd r8
                              clear H8 r8 b8 HMI
                              obtain ⟨O, hO⟩ : ∃ O, O = W9.heap.size := ⟨_, rfl⟩
                              rw [← hO] at R8 hlt9 ⊢
                              clear hO
                              go_loopw [25] (fun i wr => ∃ j : Nat, j ≤ k ∧ i = .int .i64 j ∧ wr.rowIs O 27 53 (fun i => .int .i32 (mix j F a i)) ∧ Below O W8 wr) (fun i _ => k - (intOf i).toNat)
                              case atStart => exact ⟨0, Nat.zero_le _, rfl, R8.out.congr (fun i _ => by simp [mix]), Below.refl _ _⟩
                              case round =>
                                obtain ⟨j, hj, rfl, hr, hb⟩ := hrel
                                by_cases hlt2 : j < k
                                · have c1 : wr.cell? ⟨w.heap.size + 2, j, none⟩ = some (.int .i64 (F j)) := (hb.cell hlt9).trans (by rw [(M8.out.cell j (by omega)).1, HGF.out j hlt2])
                                  have c2 := hr.cell (i := j) (by omega)
                                  have c3 := hr.frozen j
                                  have f0 := HFG.out.nonneg j hlt2
                                  have f1 := HFG.out.le j hlt2
                                  have i1 : (j : Int) < 53 := by omega
                                  have HR := hd ((hr.set j (.int .i32 (F j))).congr (g := fun i => .int .i32 (mix (j + 1) F a i)) (fun i _ => by
                                    by_cases e : i = j
                                    · subst e; simp [mix]
                                    · by_cases e2 : i < j
                                      · simp [mix, e, e2, show i < j + 1 by omega]
                                      · simp [mix, e, e2, show ¬ i < j + 1 by omega]))
                                  have HB := hd (hb.setCell (p := ⟨O, j, none⟩) (Nat.le_refl _) (.int .i32 (F j)))
                                  clear hr hb
                                  go_wp2
                                  go_roundw
                                  case rel => exact ⟨j + 1, by omega, by go_num, HR.out, HB.out⟩
                                  case measure => simp [intOf]; omega
                                · have e : j = k := by omega
                                  subst e
                                  have hrg : wr.rangeAt O 0 (arr (mix j F a)).toList := by
                                    intro i v hv
                                    have hi : i < 53 := by have := (List.getElem?_eq_some_iff.1 hv).1; simpa [arr_size] using this
                                    rw [Array.getElem?_toList, arr_at _ i hi] at hv
                                    cases hv
                                    rw [Nat.zero_add]
                                    exact hr.cell hi
                                  have HRG := hd hrg
                                  have HTH := hd (M8.out.below hb hlt9).2.2.1
                                  have HBB := hd (M8.out.below hb hlt9).1
                                  clear hr hb hrg
                                  go_wp2_with (first | (refine wpList_load_mid rfl 27 _ rfl O 0 rfl (arr (mix j F a)).toList _ HRG.out Trym.underlying27 rfl arr_info ?_) | (refine wpList_store_mid rfl 27 _ _ rfl (w.heap.size + 1) 0 (arr (mix j F a)) rfl rfl HTH.out arr_info (arr_one _) ?_))
                                  refine bodyPost_ret (v := .agg (arr (mix j F a)).toList.toArray) (results_cell_mid rfl _ _ (w.heap.size + 1) (arr (mix j F a)).toList _ rfl (World.rangeAt_setCells_same _ _ _ _ HTH.out) Trym.underlying27 rfl arr_info) rfl ⟨by rw [← HFd.out], ?_⟩
                                  exact below_setCells (by omega) _ _ _ HBB.out
                · have hx0 : excess g T k = 0 := excess_of_le k (fun i hi => by have := mx_max g k i hi; omega)
                  have hx : excess g T k ≤ S - Z := by omega
                  clear hx0
                  have hfit := level_fit (f := g) (n := k) (k := S - Z) (t := T) (by omega) (by rw [HSg.out]; omega) (fun i hi => (Hgb.out i hi).1) t1 hT.out hx
                  obtain ⟨Mn, hMn⟩ : ∃ Mn : Nat, Mn = (S - Z - excess g T k).toNat := ⟨_, rfl⟩
                  rw [← hMn] at hfit
                  have hMe : (Mn : Int) = S - Z - excess g T k := by omega
                  have HFin : Hid (∀ i, i < k → lvl g T Mn i = F i) := fun i hi => by
                    rw [HFd.out]
                    unfold normOf
                    rw [← HS.out, if_neg (by omega), dec_congr hnp (fun i hi => (Hgs.out i hi).symm) _ i hi]
                    exact (dec_level hnp _ T Mn hfit (by omega) i hi).symm
                  have HMe := hd hMe
                  clear hMn hfit hMe
                  go_wp2_with (first | go_big_skip | (refine wpList_load_row rfl 52 _ rfl (w.heap.size + 2) rfl 52 (arr64 g) (0, 0) _ (by first | with_reducible exact L1.out | with_reducible exact L2.out) Trym.underlying52 rfl arr64_info ?_) | (go_at_call 25; refine (excess25 g k T _ hn t0 (by omega) HB2.out).mono ?_; rintro e w' ⟨rfl, rfl⟩))
                  have hMe2 : (Mn : Int) ≤ 53 := by have := HMe.out; omega
                  go_loopw [22] (fun i wr => ∃ j : Nat, j ≤ k ∧ i = .int .i64 j ∧ MInv w a (cut5 g T j) wr) (fun i _ => k - (intOf i).toNat)
                  case atStart => exact ⟨0, Nat.zero_le _, rfl, (by first | exact (HE.out.alloc _) | exact ((HE.out.alloc _).alloc _) : MInv w a g _).congr (fun i _ => by simp [cut5])⟩
                  case round =>
                    obtain ⟨j, hj, rfl, hE⟩ := hrel
                    by_cases hlt2 : j < k
                    · have e1 := (hE.cell j (by omega)).1
                      rw [show cut5 g T j j = g j from by simp [cut5]] at e1
                      have e2 := (hE.cell j (by omega)).2
                      have gb := Hgb.out j hlt2
                      have i1 : (j : Int) < 53 := by omega
                      by_cases c : T < g j
                      · have HN := hd ((hE.set j T).congr (cut5_yes c))
                        clear hE
                        go_wp2
                        go_roundw
                        case rel => exact ⟨j + 1, by omega, by go_num, HN.out⟩
                        case measure => simp [intOf]; omega
                      · have HN := hd (hE.congr (cut5_no c))
                        clear hE
                        go_wp2
                        go_roundw
                        case rel => exact ⟨j + 1, by omega, by go_num, HN.out⟩
                        case measure => simp [intOf]; omega
                    · have e : k = j := by omega
                      subst e
                      have HE5 := hd hE
                      clear hE HE
                      go_wp2
                      go_loopw [21, 23] (fun m i wr => ∃ j : Nat, j ≤ k ∧ i = .int .i64 j ∧ cnt g T j ≤ Mn ∧ m = .int .i64 ((Mn : Int) - (cnt g T j : Nat)) ∧ MInv w a (low6 g T k Mn j) wr) (fun _ i _ => k - (intOf i).toNat)
                      case atStart => exact ⟨0, Nat.zero_le _, rfl, Nat.zero_le _, by rw [show S - Z - excess g T k = (Mn : Int) - (cnt g T 0 : Nat) by have := HMe.out; simp only [cnt]; omega], HE5.out.congr (fun i _ => by simp [low6])⟩
                      case round =>
                        obtain ⟨j, hj, rfl, hcm, rfl, hE⟩ := hrel
                        by_cases hex : j < k ∧ cnt g T j < Mn
                        · obtain ⟨hlt2, hmm⟩ := hex
                          have e1 := (hE.cell j (by omega)).1
                          have e2 := (hE.cell j (by omega)).2
                          have gb := Hgb.out j hlt2
                          have i1 : (j : Int) < 53 := by omega
                          have i2 : (0 : Int) < (Mn : Int) - (cnt g T j : Nat) := by omega
                          have e3 : low6 g T k Mn j j = min (g j) T := by unfold low6 cut5; rw [if_neg (by omega), if_pos hlt2]
                          by_cases c : T ≤ g j
                          · rw [e3, show min (g j) T = T by omega] at e1
                            have HN := hd ((hE.set j (T - 1)).congr (low6_yes c hmm))
                            have HX : Hid (cnt g T (j + 1) = cnt g T j + 1) := by show _ = _; rw [cnt_succ, if_pos c]
                            clear hE e3
                            go_wp2
                            go_roundw
                            case rel => exact ⟨j + 1, by omega, by go_num, by rw [HX.out]; omega, by rw [HX.out, show (Mn : Int) - ((cnt g T j + 1 : Nat) : Int) = (Mn : Int) - (cnt g T j : Nat) - 1 by omega], HN.out⟩
                            case measure => simp [intOf]; omega
                          · rw [e3, show min (g j) T = g j by omega] at e1
                            have HN := hd (hE.congr (low6_no hlt2 c))
                            have HX : Hid (cnt g T (j + 1) = cnt g T j) := by show _ = _; rw [cnt_succ, if_neg c]; rfl
                            have ne : (g j == T) = false := by rw [beq_eq_false_iff_ne]; omega
                            clear hE e3
                            go_wp2
                            go_roundw
                            case rel => exact ⟨j + 1, by omega, by go_num, by rw [HX.out]; omega, by rw [HX.out], HN.out⟩
                            case measure => simp [intOf]; omega
                        · by_cases hlt2 : j < k
                          · have i2 : (Mn : Int) - (cnt g T j : Nat) ≤ 0 := by omega
                            have i3 : (Mn : Int) - (cnt g T j : Nat) = 0 := by omega
                            have HGF : Hid (∀ i, i < k → low6 g T k Mn j i = F i) := fun i hi => (low6_end (by omega) i hi).trans (HFin.out i hi)
                            have HMI := hd hE
                            obtain ⟨W9, rfl⟩ : ∃ W9, W9 = wr := ⟨_, rfl⟩
                            clear hE
                            have hlt9 := HMI.out.lt
                            go_wp2_with (first | (refine wpList_load_row rfl 27 _ rfl w.heap.size rfl 27 (arr a) (0, 0) _ HMI.out.2.1 Trym.underlying27 rfl arr_info ?_) | (refine wpList_store_mid rfl 27 (.tmp 24) _ rfl _ 0 (arr a) (by rfl) rfl (there_new _ _ _ _ (Nat.le_refl 53)) arr_info (arr_one a) ?_))
                            have H8 := hd (made27 W9 #[.int .i32 0, .int .i32 0, .int .i32 0, .int .i32 0, .int .i32 0, .int .i32 0, .int .i32 0, .int .i32 0, .int .i32 0, .int .i32 0, .int .i32 0, .int .i32 0, .int .i32 0, .int .i32 0, .int .i32 0, .int .i32 0, .int .i32 0, .int .i32 0, .int .i32 0, .int .i32 0, .int .i32 0, .int .i32 0, .int .i32 0, .int .i32 0, .int .i32 0, .int .i32 0, .int .i32 0, .int .i32 0, .int .i32 0, .int .i32 0, .int .i32 0, .int .i32 0, .int .i32 0, .int .i32 0, .int .i32 0, .int .i32 0, .int .i32 0, .int .i32 0, .int .i32 0, .int .i32 0, .int .i32 0, .int .i32 0, .int .i32 0, .int .i32 0, .int .i32 0, .int .i32 0, .int .i32 0, .int .i32 0, .int .i32 0, .int .i32 0, .int .i32 0, .int .i32 0, .int .i32 0] a rfl)
                            generalize ((W9.alloc (.cells #[.int .i32 0, .int .i32 0, .int .i32 0, .int .i32 0, .int .i32 0, .int .i32 0, .int .i32 0, .int .i32 0, .int .i32 0, .int .i32 0, .int .i32 0, .int .i32 0, .int .i32 0, .int .i32 0, .int .i32 0, .int .i32 0, .int .i32 0, .int .i32 0, .int .i32 0, .int .i32 0, .int .i32 0, .int .i32 0, .int .i32 0, .int .i32 0, .int .i32 0, .int .i32 0, .int .i32 0, .int .i32 0, .int .i32 0, .int .i32 0, .int .i32 0, .int .i32 0, .int .i32 0, .int .i32 0, .int .i32 0, .int .i32 0, .int .i32 0, .int .i32 0, .int .i32 0, .int .i32 0, .int .i32 0, .int .i32 0, .int .i32 0, .int .i32 0, .int .i32 0, .int .i32 0, .int .i32 0, .int .i32 0, .int .i32 0, .int .i32 0, .int .i32 0, .int .i32 0, .int .i32 0] 27)).setCells W9.heap.size 0 (arr a).toList) = W8 at H8 ⊢
                            obtain ⟨r8, b8⟩ := H8.out
                            have M8 := hd (HMI.out.below b8 hlt9)
                            have R8 := hd r8
                            clear H8 r8 b8 HMI
                            obtain ⟨O, hO⟩ : ∃ O, O = W9.heap.size := ⟨_, rfl⟩
                            rw [← hO] at R8 hlt9 ⊢
                            clear hO
                            go_loopw [25] (fun i wr => ∃ j : Nat, j ≤ k ∧ i = .int .i64 j ∧ wr.rowIs O 27 53 (fun i => .int .i32 (mix j F a i)) ∧ Below O W8 wr) (fun i _ => k - (intOf i).toNat)
                            case atStart => exact ⟨0, Nat.zero_le _, rfl, R8.out.congr (fun i _ => by simp [mix]), Below.refl _ _⟩
                            case round =>
                              obtain ⟨j, hj, rfl, hr, hb⟩ := hrel
                              by_cases hlt2 : j < k
                              · have c1 : wr.cell? ⟨w.heap.size + 2, j, none⟩ = some (.int .i64 (F j)) := (hb.cell hlt9).trans (by rw [(M8.out.cell j (by omega)).1, HGF.out j hlt2])
                                have c2 := hr.cell (i := j) (by omega)
                                have c3 := hr.frozen j
                                have f0 := HFG.out.nonneg j hlt2
                                have f1 := HFG.out.le j hlt2
                                have i1 : (j : Int) < 53 := by omega
                                have HR := hd ((hr.set j (.int .i32 (F j))).congr (g := fun i => .int .i32 (mix (j + 1) F a i)) (fun i _ => by
                                  by_cases e : i = j
                                  · subst e; simp [mix]
                                  · by_cases e2 : i < j
                                    · simp [mix, e, e2, show i < j + 1 by omega]
                                    · simp [mix, e, e2, show ¬ i < j + 1 by omega]))
                                have HB := hd (hb.setCell (p := ⟨O, j, none⟩) (Nat.le_refl _) (.int .i32 (F j)))
                                clear hr hb
                                go_wp2
                                go_roundw
                                case rel => exact ⟨j + 1, by omega, by go_num, HR.out, HB.out⟩
                                case measure => simp [intOf]; omega
                              · have e : j = k := by omega
                                subst e
                                have hrg : wr.rangeAt O 0 (arr (mix j F a)).toList := by
                                  intro i v hv
                                  have hi : i < 53 := by have := (List.getElem?_eq_some_iff.1 hv).1; simpa [arr_size] using this
                                  rw [Array.getElem?_toList, arr_at _ i hi] at hv
                                  cases hv
                                  rw [Nat.zero_add]
                                  exact hr.cell hi
                                have HRG := hd hrg
                                have HTH := hd (M8.out.below hb hlt9).2.2.1
                                have HBB := hd (M8.out.below hb hlt9).1
                                clear hr hb hrg
                                go_wp2_with (first | (refine wpList_load_mid rfl 27 _ rfl O 0 rfl (arr (mix j F a)).toList _ HRG.out Trym.underlying27 rfl arr_info ?_) | (refine wpList_store_mid rfl 27 _ _ rfl (w.heap.size + 1) 0 (arr (mix j F a)) rfl rfl HTH.out arr_info (arr_one _) ?_))
                                refine bodyPost_ret (v := .agg (arr (mix j F a)).toList.toArray) (results_cell_mid rfl _ _ (w.heap.size + 1) (arr (mix j F a)).toList _ rfl (World.rangeAt_setCells_same _ _ _ _ HTH.out) Trym.underlying27 rfl arr_info) rfl ⟨by rw [← HFd.out], ?_⟩
                                exact below_setCells (by omega) _ _ _ HBB.out
                          · have e : j = k := by omega
                            have HGF : Hid (∀ i, i < k → low6 g T k Mn j i = F i) := fun i hi => (low6_end (by omega) i hi).trans (HFin.out i hi)
                            have HMI := hd hE
                            obtain ⟨W9, rfl⟩ : ∃ W9, W9 = wr := ⟨_, rfl⟩
                            clear hE
                            have hlt9 := HMI.out.lt
                            go_wp2_with (first | (refine wpList_load_row rfl 27 _ rfl w.heap.size rfl 27 (arr a) (0, 0) _ HMI.out.2.1 Trym.underlying27 rfl arr_info ?_) | (refine wpList_store_mid rfl 27 (.tmp 24) _ rfl _ 0 (arr a) (by rfl) rfl (there_new _ _ _ _ (Nat.le_refl 53)) arr_info (arr_one a) ?_))
                            have H8 := hd (made27 W9 #[.int .i32 0, .int .i32 0, .int .i32 0, .int .i32 0, .int .i32 0, .int .i32 0, .int .i32 0, .int .i32 0, .int .i32 0, .int .i32 0, .int .i32 0, .int .i32 0, .int .i32 0, .int .i32 0, .int .i32 0, .int .i32 0, .int .i32 0, .int .i32 0, .int .i32 0, .int .i32 0, .int .i32 0, .int .i32 0, .int .i32 0, .int .i32 0, .int .i32 0, .int .i32 0, .int .i32 0, .int .i32 0, .int .i32 0, .int .i32 0, .int .i32 0, .int .i32 0, .int .i32 0, .int .i32 0, .int .i32 0, .int .i32 0, .int .i32 0, .int .i32 0, .int .i32 0, .int .i32 0, .int .i32 0, .int .i32 0, .int .i32 0, .int .i32 0, .int .i32 0, .int .i32 0, .int .i32 0, .int .i32 0, .int .i32 0, .int .i32 0, .int .i32 0, .int .i32 0, .int .i32 0] a rfl)
                            generalize ((W9.alloc (.cells #[.int .i32 0, .int .i32 0, .int .i32 0, .int .i32 0, .int .i32 0, .int .i32 0, .int .i32 0, .int .i32 0, .int .i32 0, .int .i32 0, .int .i32 0, .int .i32 0, .int .i32 0, .int .i32 0, .int .i32 0, .int .i32 0, .int .i32 0, .int .i32 0, .int .i32 0, .int .i32 0, .int .i32 0, .int .i32 0, .int .i32 0, .int .i32 0, .int .i32 0, .int .i32 0, .int .i32 0, .int .i32 0, .int .i32 0, .int .i32 0, .int .i32 0, .int .i32 0, .int .i32 0, .int .i32 0, .int .i32 0, .int .i32 0, .int .i32 0, .int .i32 0, .int .i32 0, .int .i32 0, .int .i32 0, .int .i32 0, .int .i32 0, .int .i32 0, .int .i32 0, .int .i32 0, .int .i32 0, .int .i32 0, .int .i32 0, .int .i32 0, .int .i32 0, .int .i32 0, .int .i32 0] 27)).setCells W9.heap.size 0 (arr a).toList) = W8 at H8 ⊢
                            obtain ⟨r8, b8⟩ := H8.out
                            have M8 := hd (HMI.out.below b8 hlt9)
                            have R8 := hd r8
                            clear H8 r8 b8 HMI
                            obtain ⟨O, hO⟩ : ∃ O, O = W9.heap.size := ⟨_, rfl⟩
                            rw [← hO] at R8 hlt9 ⊢
                            clear hO
                            go_loopw [25] (fun i wr => ∃ j : Nat, j ≤ k ∧ i = .int .i64 j ∧ wr.rowIs O 27 53 (fun i => .int .i32 (mix j F a i)) ∧ Below O W8 wr) (fun i _ => k - (intOf i).toNat)
                            case atStart => exact ⟨0, Nat.zero_le _, rfl, R8.out.congr (fun i _ => by simp [mix]), Below.refl _ _⟩
                            case round =>
                              obtain ⟨j, hj, rfl, hr, hb⟩ := hrel
                              by_cases hlt2 : j < k
                              · have c1 : wr.cell? ⟨w.heap.size + 2, j, none⟩ = some (.int .i64 (F j)) := (hb.cell hlt9).trans (by rw [(M8.out.cell j (by omega)).1, HGF.out j hlt2])
                                have c2 := hr.cell (i := j) (by omega)
                                have c3 := hr.frozen j
                                have f0 := HFG.out.nonneg j hlt2
                                have f1 := HFG.out.le j hlt2
                                have i1 : (j : Int) < 53 := by omega
                                have HR := hd ((hr.set j (.int .i32 (F j))).congr (g := fun i => .int .i32 (mix (j + 1) F a i)) (fun i _ => by
                                  by_cases e : i = j
                                  · subst e; simp [mix]
                                  · by_cases e2 : i < j
                                    · simp [mix, e, e2, show i < j + 1 by omega]
                                    · simp [mix, e, e2, show ¬ i < j + 1 by omega]))
                                have HB := hd (hb.setCell (p := ⟨O, j, none⟩) (Nat.le_refl _) (.int .i32 (F j)))
                                clear hr hb
                                go_wp2
                                go_roundw
                                case rel => exact ⟨j + 1, by omega, by go_num, HR.out, HB.out⟩
                                case measure => simp [intOf]; omega
                              · have e : j = k := by omega
                                subst e
                                have hrg : wr.rangeAt O 0 (arr (mix j F a)).toList := by
                                  intro i v hv
                                  have hi : i < 53 := by have := (List.getElem?_eq_some_iff.1 hv).1; simpa [arr_size] using this
                                  rw [Array.getElem?_toList, arr_at _ i hi] at hv
                                  cases hv
                                  rw [Nat.zero_add]
                                  exact hr.cell hi
                                have HRG := hd hrg
                                have HTH := hd (M8.out.below hb hlt9).2.2.1
                                have HBB := hd (M8.out.below hb hlt9).1
                                clear hr hb hrg
                                go_wp2_with (first | (refine wpList_load_mid rfl 27 _ rfl O 0 rfl (arr (mix j F a)).toList _ HRG.out Trym.underlying27 rfl arr_info ?_) | (refine wpList_store_mid rfl 27 _ _ rfl (w.heap.size + 1) 0 (arr (mix j F a)) rfl rfl HTH.out arr_info (arr_one _) ?_))
                                refine bodyPost_ret (v := .agg (arr (mix j F a)).toList.toArray) (results_cell_mid rfl _ _ (w.heap.size + 1) (arr (mix j F a)).toList _ rfl (World.rangeAt_setCells_same _ _ _ _ HTH.out) Trym.underlying27 rfl arr_info) rfl ⟨by rw [← HFd.out], ?_⟩
                                exact below_setCells (by omega) _ _ _ HBB.out
end Go.Proofs.Qxb6601911aMods
