import Derived.Test.Qxb6601507aModsBase
import Derived.Deep.OwnRows
import Derived.Deep.AppendLies
namespace Go.Proofs.Qxb6601507aMods
open Go.RowKit Pl

theorem Trym.info66 : (Trym.prog.info? 66).map (fun i => (i.zero, i.size, i.bytes)) = some (some (.agg #[.pointer none, .int .i64 0, .int .i64 0, .int .i64 0, .int .i64 0, .int .i64 0]), 6, 48) := by kernel_rfl

/-- the cells of the span of part i -/
def spanCells (bk : Nat) (se pl : Nat → Int) (off ln : Int) (i : Nat) : List Value :=
  [.pointer (some ⟨bk, i * 32, none⟩), .int .i64 (se i), .int .i64 (firstOf pl off ln i), .int .i64 (lastOf pl off ln i), .int .i64 (skipOf pl off ln i), .int .i64 (lenOf pl off ln i)]
def allCells (bk : Nat) (se pl : Nat → Int) (off ln : Int) (l : List Nat) : List Value := l.flatMap (spanCells bk se pl off ln)

theorem hd {p : Prop} (h : p) : Hid p := h
theorem part_bounds {pl : Nat → Int} {off ln : Int} {k n : Nat} (hkn : k < n) (hp : ∀ i, i < n → 0 ≤ pl i) (_h0 : 0 ≤ off) (h1 : 0 ≤ ln) (hin : incB pl off ln k = true) :
    0 ≤ fromOf pl off ln k ∧ 0 ≤ lenOf pl off ln k ∧ fromOf pl off ln k + lenOf pl off ln k ≤ pl k := by
  have hk := hp k hkn
  have hsu := psum_succ pl k
  by_cases hl : ln = 0
  · simp [fromOf, lenOf, hl]; omega
  · simp [incB, hl] at hin
    simp only [fromOf, lenOf, hl, if_false]
    omega

theorem part_blocks {pl : Nat → Int} {off ln : Int} {k n : Nat} (hkn : k < n) (hp : ∀ i, i < n → 0 ≤ pl i) (h0 : 0 ≤ off) (h1 : 0 ≤ ln) (hb : pl k ≤ 2305843009213693952) (hin : incB pl off ln k = true) :
    0 ≤ firstOf pl off ln k ∧ firstOf pl off ln k ≤ 35184372088832 ∧ 0 ≤ lastOf pl off ln k ∧ lastOf pl off ln k ≤ 35184372088832 := by
  have h := part_bounds hkn hp h0 h1 hin
  unfold firstOf lastOf
  omega

/-- spanOf at the part that is met -/
theorem spanOf_part (se pl : Nat → Int) (off ln : Int) (k n : Nat) (x y : Int) (w : World) (hkn : k < n) (hp : ∀ i, i < n → 0 ≤ pl i) (hb : pl k ≤ 2305843009213693952) (h0 : 0 ≤ off) (h1 : 0 ≤ ln) (hin : incB pl off ln k = true)
    (hx : x = fromOf pl off ln k) (hy : y = lenOf pl off ln k) :
    Calls Trym.prog 29 #[.int .i64 (se k), .int .i64 x, .int .i64 y] w fun e w' =>
      e = .returned (.agg #[.int .i64 (se k), .int .i64 (firstOf pl off ln k), .int .i64 (lastOf pl off ln k), .int .i64 (skipOf pl off ln k), .int .i64 (lenOf pl off ln k)]) ∧
      w' = w.alloc (spanObj (se k) (firstOf pl off ln k) (lastOf pl off ln k) (skipOf pl off ln k) (lenOf pl off ln k)) := by
  have hpb := part_bounds hkn hp h0 h1 hin
  subst hx hy
  exact spanOf_any _ _ _ w hpb.1 hpb.2.1 (by omega)

theorem spanCells_one (bk : Nat) (se pl : Nat → Int) (off ln : Int) (i : Nat) : ∀ u ∈ spanCells bk se pl off ln i, u.oneCell' = true := by
  intro u hu
  simp [spanCells] at hu
  rcases hu with rfl | rfl | rfl | rfl | rfl | rfl <;> rfl
theorem own_next {W : World} {B bk : Nat} {se pl : Nat → Int} {off ln : Int} {k : Nat} {v : Value} (hin : incB pl off ln k = true)
    (h : W.ownsRow B 66 6 v ((inc pl off ln k).length + 1) (allCells bk se pl off ln (inc pl off ln k) ++ spanCells bk se pl off ln k)) :
    W.ownsRow B 66 6 v (inc pl off ln (k + 1)).length (allCells bk se pl off ln (inc pl off ln (k + 1))) := by
  rw [inc_yes hin]; simpa [allCells] using h
theorem news_at {w : World} {B : Nat} (cs : Array Value) (t : TypeId) (l : List Value) (hB : w.heap.size = B) (hl : cs.toList = l := by rfl) : ∀ j u, l[j]? = some u → (w.alloc (.cells cs t)).cell? ((⟨B, 0, none⟩ : Addr).add j) = some u := by
  subst hB hl
  exact fun j u hu => World.news_of_block (heap_alloc_new _ _) j u hu
theorem bel_alloc {a w : World} (h : Below a.heap.size a w) (o : Obj) : Below a.heap.size a (w.alloc o) := h.alloc h.size o
theorem startOf_eq {se pl : Nat → Int} {off ln : Int} {a b : Nat} (h : inc pl off ln a = inc pl off ln b) : startOf se pl off ln a = startOf se pl off ln b := by unfold startOf; rw [h]
theorem endOf_eq {se pl : Nat → Int} {off ln : Int} {a b : Nat} (h : inc pl off ln a = inc pl off ln b) : endOf se pl off ln a = endOf se pl off ln b := by unfold endOf; rw [h]
theorem own_drawn {W : World} {B e s n : Nat} {v : Value} {xs : List Value} (m : Nat) (h : W.ownsRow B e s v n xs) : (W.drewN m).ownsRow B e s v n xs := h

set_option maxHeartbeats 8000000 in
set_option maxRecDepth 100000 in
theorem spans_any (bl bk n : Nat) (se pl : Nat → Int) (off ln : Int) (w : World) (hn : n ≤ 131072)
    (hc0 : ∀ i, i < n → w.cell? ⟨bl, i * 3, none⟩ = some (.pointer (some ⟨bk, i * 32, none⟩)))
    (hc1 : ∀ i, i < n → w.cell? ⟨bl, i * 3 + 1, none⟩ = some (.int .i64 (se i)))
    (hc2 : ∀ i, i < n → w.cell? ⟨bl, i * 3 + 2, none⟩ = some (.int .i64 (pl i)))
    (hp : ∀ i, i < n → 0 ≤ pl i) (hs : ∀ i, i < n → 0 ≤ se i) (hpt : psum pl n ≤ 2305843009213693952) (hst : psum se n ≤ 4611686018427387904)
    (h0 : 0 ≤ off) (h1 : 0 ≤ ln) (h2 : off + ln ≤ psum pl n) :
    Calls Trym.prog 32 #[.slice (some ⟨bl, 0, none⟩) n n, .int .i64 off, .int .i64 ln] w fun e w' => ∃ v,
      e = .returned (.tuple #[v, .int .i64 (startOf se pl off ln n), .int .i64 (endOf se pl off ln n)]) ∧
      w'.ownsRow w.heap.size 66 6 v (inc pl off ln n).length (allCells bk se pl off ln (inc pl off ln n)) ∧ Below w.heap.size w w' := by
  obtain ⟨i0, hi, hz0, hz1, hz2⟩ := info_parts Trym.info66
  have HI := hd (And.intro hi (And.intro hz0 (And.intro hz1 hz2)))
  clear hi hz0 hz1 hz2
  go_enter Trym.func32, Trym.ntmps32
  go_wp2
  go_loopw [6, 7, 8, 9, 10, 21] (fun sp st en pa sa i wr => ∃ k : Nat, k ≤ n ∧ i = .int .i64 k ∧ pa = .int .i64 (psum pl k) ∧ sa = .int .i64 (psum se k) ∧ st = .int .i64 (startOf se pl off ln k) ∧ en = .int .i64 (endOf se pl off ln k) ∧
      wr.ownsRow w.heap.size 66 6 sp (inc pl off ln k).length (allCells bk se pl off ln (inc pl off ln k)) ∧ Below w.heap.size w wr ∧ ((inc pl off ln k).length = 0 → sp = .slice none 0 0)) (fun _ _ _ _ _ i _ => n - (intOf i).toNat)
  case atStart => exact ⟨0, Nat.zero_le _, rfl, rfl, rfl, rfl, rfl, World.ownsRow_nil _ _ _ _, Below.refl _ _, fun _ => rfl⟩
  case round =>
    obtain ⟨k, hk, rfl, rfl, rfl, rfl, rfl, hown, hbel, hnil⟩ := hrel
    by_cases hlt : k < n
    · have g0 : wr.cell? ⟨bl, k * 3, none⟩ = some (.pointer (some ⟨bk, k * 32, none⟩)) := (hbel.cell (World.block_lt_of_cell? w _ (hc0 k hlt))).trans (hc0 k hlt)
      have g1 : wr.cell? ⟨bl, k * 3 + 1, none⟩ = some (.int .i64 (se k)) := (hbel.cell (World.block_lt_of_cell? w _ (hc1 k hlt))).trans (hc1 k hlt)
      have g2 : wr.cell? ⟨bl, k * 3 + 2, none⟩ = some (.int .i64 (pl k)) := (hbel.cell (World.block_lt_of_cell? w _ (hc2 k hlt))).trans (hc2 k hlt)
      have p0 := psum_nonneg pl n hp k hk
      have p1 := psum_mono pl n hp (k + 1) n (by omega) (Nat.le_refl _)
      have p2 := hp k hlt
      have q0 := psum_nonneg se n hs k hk
      have q1 := psum_mono se n hs (k + 1) n (by omega) (Nat.le_refl _)
      have q2 := hs k hlt
      rw [psum_succ] at p1 q1
      have hle := inc_len_le pl off ln k
      have hsz := hbel.size
      by_cases z : ln = 0
      · by_cases k0 : k = 0
        · have HIN : Hid (incB pl off ln k = true) := by show incB pl off ln k = true; simp [incB, z, k0]
          have HF : Hid (fromOf pl off ln k = 0 ∧ lenOf pl off ln k = 0) := by refine ⟨?_, ?_⟩ <;> simp [fromOf, lenOf, z]
          have fb := part_blocks hlt hp h0 h1 (by omega) HIN.out
          have HM : Hid ((inc pl off ln k).length = 0) := by show (inc pl off ln k).length = 0; omega
          have hv := hnil HM.out
          subst hv
          have zt : (ln == 0) = true := by simp [z]
          have kt : ((k : Int) == 0) = true := by simp [k0]
          clear z k0 hnil
          go_wp2
          go_quiet (fail)
          go_wp2_with (first | (go_at_call 29; refine (spanOf_part se pl off ln k n _ _ _ hlt hp (by omega) h0 h1 HIN.out (by have := HF.out; omega) (by have := HF.out; omega)).mono ?_; rintro e w' ⟨rfl, rfl⟩) | (go_at_call 30; refine (sealedStart_any _ _ _ _ _ _ (by omega) (by omega)).mono ?_; rintro e w' ⟨rfl, rfl⟩) | (at_builtin; refine wpList_append_lies _ rfl (.tmp 91) (.tmp 96) 62 rfl w.heap.size 66 i0 (.agg #[.pointer none, .int .i64 0, .int .i64 0, .int .i64 0, .int .i64 0, .int .i64 0]) 6 48 Trym.underlying62 HI.out.1 HI.out.2.1 HI.out.2.2.1 HI.out.2.2.2 rfl (by omega) (.slice none 0 0) (inc pl off ln k).length (allCells bk se pl off ln (inc pl off ln k)) (by rfl) ?hown ⟨_, 0, none⟩ 1 1 (spanCells bk se pl off ln k) (by rfl) rfl ?hnews (spanCells_one _ _ _ _ _ _) (by omega) ?h63 (by omega) ?hbase _ rfl ?_))
          case hown => exact ((((own_drawn _ (hown.alloc _)).alloc _).alloc _).alloc _).alloc _
          case hnews => exact news_at _ _ _ (by simp)
          case h63 => unfold maxLen; omega
          case hbase => simp; omega
          intro g cap w1 hown1 hgrow hat hlt1
          have t0 : w1.cell? ⟨wr.heap.size + 1, 0, none⟩ = some (.int .i64 (se k)) := hgrow.cell (by go_simp) (by simp [Value.ownBlock])
          have t1 : w1.cell? ⟨wr.heap.size + 1, 1, none⟩ = some (.int .i64 (firstOf pl off ln k)) := hgrow.cell (by go_simp) (by simp [Value.ownBlock])
          have t2 : w1.cell? ⟨wr.heap.size + 1, 2, none⟩ = some (.int .i64 (lastOf pl off ln k)) := hgrow.cell (by go_simp) (by simp [Value.ownBlock])
          have t3 : w1.cell? ⟨wr.heap.size + 1, 3, none⟩ = some (.int .i64 (skipOf pl off ln k)) := hgrow.cell (by go_simp) (by simp [Value.ownBlock])
          have t4 : w1.cell? ⟨wr.heap.size + 1, 4, none⟩ = some (.int .i64 (lenOf pl off ln k)) := hgrow.cell (by go_simp) (by simp [Value.ownBlock])
          have bel1 : Below w.heap.size w w1 := by
            refine Below.grown ?_ hgrow (by simp; omega) (by intro j hj; simp [Value.ownBlock] at hj)
            repeat (first | exact hbel | refine bel_alloc ?_ _ | refine below_drewN ?_ _)
          have hw1 := bel1.size
          have HN := hd (own_next HIN.out hown1)
          clear hown hown1 hgrow hat
          go_wp2_with (go_at_call 31; refine (sealedEnd_any _ _ _ _ _ _ (by omega) (by omega)).mono ?_; rintro e w' ⟨rfl, rfl⟩)
          go_roundw
          case rel => exact ⟨k + 1, by omega, by go_num, rfl, rfl, by rw [startOf_yes HIN.out, if_pos HM.out]; rfl, by rw [endOf_yes HIN.out]; rfl, HN.out.alloc _, bel1.alloc (by omega) _, fun h => by rw [inc_yes HIN.out] at h; simp at h⟩
          case measure => simp [intOf]; omega
        · have HNO : Hid (incB pl off ln k = false) := by show incB pl off ln k = false; simp [incB, z, k0]
          have zt : (ln == 0) = true := by simp [z]
          have kt : ((k : Int) == 0) = false := by simp; omega
          have HNIL := hd hnil
          clear z k0 hnil
          go_wp2
          go_quiet (fail)
          go_wp2
          go_roundw
          case rel => exact ⟨k + 1, by omega, by go_num, rfl, rfl, by rw [startOf_no HNO.out], by rw [endOf_no HNO.out], by rw [inc_no HNO.out]; exact (own_drawn _ (hown.alloc _)).alloc _, bel_alloc (below_drewN (bel_alloc hbel _) _) _, by rw [inc_no HNO.out]; exact HNIL.out⟩
          case measure => simp [intOf]; omega
      have z' : (ln == 0) = false := by simp [z]
      by_cases a1 : psum pl k + pl k ≤ off
      · have HNO : Hid (incB pl off ln k = false) := by show incB pl off ln k = false; unfold incB; rw [if_neg z, psum_succ]; exact decide_eq_false (by omega)
        have a1' : decide (psum pl k + pl k ≤ off) = true := by simp; omega
        have HNIL := hd hnil
        clear hnil
        go_wp2
        go_quiet (fail)
        go_wp2
        go_roundw
        case rel => exact ⟨k + 1, by omega, by go_num, rfl, rfl, by rw [startOf_no HNO.out], by rw [endOf_no HNO.out], by rw [inc_no HNO.out]; exact (own_drawn _ (hown.alloc _)).alloc _, bel_alloc (below_drewN (bel_alloc hbel _) _) _, by rw [inc_no HNO.out]; exact HNIL.out⟩
        case measure => simp [intOf]; omega
      have a1' : decide (psum pl k + pl k ≤ off) = false := by simp; omega
      by_cases a2 : off + ln ≤ psum pl k
      · have HE : Hid (inc pl off ln n = inc pl off ln k) := inc_past hk hp z a2
        have a2' : decide (off + ln ≤ psum pl k) = true := by simp; omega
        clear hnil
        go_wp2
        go_quiet (fail)
        go_wp2
        go_ret3
        exact ⟨_, by rw [startOf_eq HE.out, endOf_eq HE.out]; rfl, by rw [HE.out]; exact (own_drawn _ (hown.alloc _)).alloc _, bel_alloc (below_drewN (bel_alloc hbel _) _) _⟩
      have a2' : decide (off + ln ≤ psum pl k) = false := by simp; omega
      have hin : incB pl off ln k = true := by unfold incB; rw [if_neg z, psum_succ]; exact decide_eq_true ⟨by omega, by omega⟩
      have HIN := hd hin
      have fb := part_blocks hlt hp h0 h1 (by omega) hin
      have HF : Hid (fromOf pl off ln k = max off (psum pl k) - psum pl k ∧ lenOf pl off ln k = min (off + ln) (psum pl k + pl k) - psum pl k - (max off (psum pl k) - psum pl k)) := by
        refine ⟨?_, ?_⟩
        · simp [fromOf, z]
        · simp [lenOf, z, psum_succ]
      clear hin
      by_cases m0 : (inc pl off ln k).length = 0
      · have hv := hnil m0
        subst hv
        have HM := hd m0
        clear m0 hnil
        rcases Int.lt_or_le off (psum pl k) with c1 | c1 <;> rcases Int.lt_or_le (psum pl k + pl k) (off + ln) with c2 | c2
        · go_wp2
          go_quiet (fail)
          go_wp2_with (first | (go_at_call 29; refine (spanOf_part se pl off ln k n _ _ _ hlt hp (by omega) h0 h1 HIN.out (by have := HF.out; omega) (by have := HF.out; omega)).mono ?_; rintro e w' ⟨rfl, rfl⟩) | (go_at_call 30; refine (sealedStart_any _ _ _ _ _ _ (by omega) (by omega)).mono ?_; rintro e w' ⟨rfl, rfl⟩) | (at_builtin; refine wpList_append_lies _ rfl (.tmp 91) (.tmp 96) 62 rfl w.heap.size 66 i0 (.agg #[.pointer none, .int .i64 0, .int .i64 0, .int .i64 0, .int .i64 0, .int .i64 0]) 6 48 Trym.underlying62 HI.out.1 HI.out.2.1 HI.out.2.2.1 HI.out.2.2.2 rfl (by omega) (.slice none 0 0) (inc pl off ln k).length (allCells bk se pl off ln (inc pl off ln k)) (by rfl) ?hown ⟨_, 0, none⟩ 1 1 (spanCells bk se pl off ln k) (by rfl) rfl ?hnews (spanCells_one _ _ _ _ _ _) (by omega) ?h63 (by omega) ?hbase _ rfl ?_))
          case hown => exact ((((own_drawn _ (hown.alloc _)).alloc _).alloc _).alloc _).alloc _
          case hnews => exact news_at _ _ _ (by simp)
          case h63 => unfold maxLen; omega
          case hbase => simp; omega
          intro g cap w1 hown1 hgrow hat hlt1
          have t0 : w1.cell? ⟨wr.heap.size + 1, 0, none⟩ = some (.int .i64 (se k)) := hgrow.cell (by go_simp) (by simp [Value.ownBlock])
          have t1 : w1.cell? ⟨wr.heap.size + 1, 1, none⟩ = some (.int .i64 (firstOf pl off ln k)) := hgrow.cell (by go_simp) (by simp [Value.ownBlock])
          have t2 : w1.cell? ⟨wr.heap.size + 1, 2, none⟩ = some (.int .i64 (lastOf pl off ln k)) := hgrow.cell (by go_simp) (by simp [Value.ownBlock])
          have t3 : w1.cell? ⟨wr.heap.size + 1, 3, none⟩ = some (.int .i64 (skipOf pl off ln k)) := hgrow.cell (by go_simp) (by simp [Value.ownBlock])
          have t4 : w1.cell? ⟨wr.heap.size + 1, 4, none⟩ = some (.int .i64 (lenOf pl off ln k)) := hgrow.cell (by go_simp) (by simp [Value.ownBlock])
          have bel1 : Below w.heap.size w w1 := by
            refine Below.grown ?_ hgrow (by simp; omega) (by intro j hj; simp [Value.ownBlock] at hj)
            repeat (first | exact hbel | refine bel_alloc ?_ _ | refine below_drewN ?_ _)
          have hw1 := bel1.size
          have HN := hd (own_next HIN.out hown1)
          clear hown hown1 hgrow hat
          go_wp2_with (go_at_call 31; refine (sealedEnd_any _ _ _ _ _ _ (by omega) (by omega)).mono ?_; rintro e w' ⟨rfl, rfl⟩)
          go_roundw
          case rel => exact ⟨k + 1, by omega, by go_num, rfl, rfl, by rw [startOf_yes HIN.out, if_pos HM.out]; rfl, by rw [endOf_yes HIN.out]; rfl, HN.out.alloc _, bel1.alloc (by omega) _, fun h => by rw [inc_yes HIN.out] at h; simp at h⟩
          case measure => simp [intOf]; omega
        · go_wp2
          go_quiet (fail)
          go_wp2_with (first | (go_at_call 29; refine (spanOf_part se pl off ln k n _ _ _ hlt hp (by omega) h0 h1 HIN.out (by have := HF.out; omega) (by have := HF.out; omega)).mono ?_; rintro e w' ⟨rfl, rfl⟩) | (go_at_call 30; refine (sealedStart_any _ _ _ _ _ _ (by omega) (by omega)).mono ?_; rintro e w' ⟨rfl, rfl⟩) | (at_builtin; refine wpList_append_lies _ rfl (.tmp 91) (.tmp 96) 62 rfl w.heap.size 66 i0 (.agg #[.pointer none, .int .i64 0, .int .i64 0, .int .i64 0, .int .i64 0, .int .i64 0]) 6 48 Trym.underlying62 HI.out.1 HI.out.2.1 HI.out.2.2.1 HI.out.2.2.2 rfl (by omega) (.slice none 0 0) (inc pl off ln k).length (allCells bk se pl off ln (inc pl off ln k)) (by rfl) ?hown ⟨_, 0, none⟩ 1 1 (spanCells bk se pl off ln k) (by rfl) rfl ?hnews (spanCells_one _ _ _ _ _ _) (by omega) ?h63 (by omega) ?hbase _ rfl ?_))
          case hown => exact ((((own_drawn _ (hown.alloc _)).alloc _).alloc _).alloc _).alloc _
          case hnews => exact news_at _ _ _ (by simp)
          case h63 => unfold maxLen; omega
          case hbase => simp; omega
          intro g cap w1 hown1 hgrow hat hlt1
          have t0 : w1.cell? ⟨wr.heap.size + 1, 0, none⟩ = some (.int .i64 (se k)) := hgrow.cell (by go_simp) (by simp [Value.ownBlock])
          have t1 : w1.cell? ⟨wr.heap.size + 1, 1, none⟩ = some (.int .i64 (firstOf pl off ln k)) := hgrow.cell (by go_simp) (by simp [Value.ownBlock])
          have t2 : w1.cell? ⟨wr.heap.size + 1, 2, none⟩ = some (.int .i64 (lastOf pl off ln k)) := hgrow.cell (by go_simp) (by simp [Value.ownBlock])
          have t3 : w1.cell? ⟨wr.heap.size + 1, 3, none⟩ = some (.int .i64 (skipOf pl off ln k)) := hgrow.cell (by go_simp) (by simp [Value.ownBlock])
          have t4 : w1.cell? ⟨wr.heap.size + 1, 4, none⟩ = some (.int .i64 (lenOf pl off ln k)) := hgrow.cell (by go_simp) (by simp [Value.ownBlock])
          have bel1 : Below w.heap.size w w1 := by
            refine Below.grown ?_ hgrow (by simp; omega) (by intro j hj; simp [Value.ownBlock] at hj)
            repeat (first | exact hbel | refine bel_alloc ?_ _ | refine below_drewN ?_ _)
          have hw1 := bel1.size
          have HN := hd (own_next HIN.out hown1)
          clear hown hown1 hgrow hat
          go_wp2_with (go_at_call 31; refine (sealedEnd_any _ _ _ _ _ _ (by omega) (by omega)).mono ?_; rintro e w' ⟨rfl, rfl⟩)
          go_roundw
          case rel => exact ⟨k + 1, by omega, by go_num, rfl, rfl, by rw [startOf_yes HIN.out, if_pos HM.out]; rfl, by rw [endOf_yes HIN.out]; rfl, HN.out.alloc _, bel1.alloc (by omega) _, fun h => by rw [inc_yes HIN.out] at h; simp at h⟩
          case measure => simp [intOf]; omega
        · go_wp2
          go_quiet (fail)
          go_wp2_with (first | (go_at_call 29; refine (spanOf_part se pl off ln k n _ _ _ hlt hp (by omega) h0 h1 HIN.out (by have := HF.out; omega) (by have := HF.out; omega)).mono ?_; rintro e w' ⟨rfl, rfl⟩) | (go_at_call 30; refine (sealedStart_any _ _ _ _ _ _ (by omega) (by omega)).mono ?_; rintro e w' ⟨rfl, rfl⟩) | (at_builtin; refine wpList_append_lies _ rfl (.tmp 91) (.tmp 96) 62 rfl w.heap.size 66 i0 (.agg #[.pointer none, .int .i64 0, .int .i64 0, .int .i64 0, .int .i64 0, .int .i64 0]) 6 48 Trym.underlying62 HI.out.1 HI.out.2.1 HI.out.2.2.1 HI.out.2.2.2 rfl (by omega) (.slice none 0 0) (inc pl off ln k).length (allCells bk se pl off ln (inc pl off ln k)) (by rfl) ?hown ⟨_, 0, none⟩ 1 1 (spanCells bk se pl off ln k) (by rfl) rfl ?hnews (spanCells_one _ _ _ _ _ _) (by omega) ?h63 (by omega) ?hbase _ rfl ?_))
          case hown => exact ((((own_drawn _ (hown.alloc _)).alloc _).alloc _).alloc _).alloc _
          case hnews => exact news_at _ _ _ (by simp)
          case h63 => unfold maxLen; omega
          case hbase => simp; omega
          intro g cap w1 hown1 hgrow hat hlt1
          have t0 : w1.cell? ⟨wr.heap.size + 1, 0, none⟩ = some (.int .i64 (se k)) := hgrow.cell (by go_simp) (by simp [Value.ownBlock])
          have t1 : w1.cell? ⟨wr.heap.size + 1, 1, none⟩ = some (.int .i64 (firstOf pl off ln k)) := hgrow.cell (by go_simp) (by simp [Value.ownBlock])
          have t2 : w1.cell? ⟨wr.heap.size + 1, 2, none⟩ = some (.int .i64 (lastOf pl off ln k)) := hgrow.cell (by go_simp) (by simp [Value.ownBlock])
          have t3 : w1.cell? ⟨wr.heap.size + 1, 3, none⟩ = some (.int .i64 (skipOf pl off ln k)) := hgrow.cell (by go_simp) (by simp [Value.ownBlock])
          have t4 : w1.cell? ⟨wr.heap.size + 1, 4, none⟩ = some (.int .i64 (lenOf pl off ln k)) := hgrow.cell (by go_simp) (by simp [Value.ownBlock])
          have bel1 : Below w.heap.size w w1 := by
            refine Below.grown ?_ hgrow (by simp; omega) (by intro j hj; simp [Value.ownBlock] at hj)
            repeat (first | exact hbel | refine bel_alloc ?_ _ | refine below_drewN ?_ _)
          have hw1 := bel1.size
          have HN := hd (own_next HIN.out hown1)
          clear hown hown1 hgrow hat
          go_wp2_with (go_at_call 31; refine (sealedEnd_any _ _ _ _ _ _ (by omega) (by omega)).mono ?_; rintro e w' ⟨rfl, rfl⟩)
          go_roundw
          case rel => exact ⟨k + 1, by omega, by go_num, rfl, rfl, by rw [startOf_yes HIN.out, if_pos HM.out]; rfl, by rw [endOf_yes HIN.out]; rfl, HN.out.alloc _, bel1.alloc (by omega) _, fun h => by rw [inc_yes HIN.out] at h; simp at h⟩
          case measure => simp [intOf]; omega
        · go_wp2
          go_quiet (fail)
          go_wp2_with (first | (go_at_call 29; refine (spanOf_part se pl off ln k n _ _ _ hlt hp (by omega) h0 h1 HIN.out (by have := HF.out; omega) (by have := HF.out; omega)).mono ?_; rintro e w' ⟨rfl, rfl⟩) | (go_at_call 30; refine (sealedStart_any _ _ _ _ _ _ (by omega) (by omega)).mono ?_; rintro e w' ⟨rfl, rfl⟩) | (at_builtin; refine wpList_append_lies _ rfl (.tmp 91) (.tmp 96) 62 rfl w.heap.size 66 i0 (.agg #[.pointer none, .int .i64 0, .int .i64 0, .int .i64 0, .int .i64 0, .int .i64 0]) 6 48 Trym.underlying62 HI.out.1 HI.out.2.1 HI.out.2.2.1 HI.out.2.2.2 rfl (by omega) (.slice none 0 0) (inc pl off ln k).length (allCells bk se pl off ln (inc pl off ln k)) (by rfl) ?hown ⟨_, 0, none⟩ 1 1 (spanCells bk se pl off ln k) (by rfl) rfl ?hnews (spanCells_one _ _ _ _ _ _) (by omega) ?h63 (by omega) ?hbase _ rfl ?_))
          case hown => exact ((((own_drawn _ (hown.alloc _)).alloc _).alloc _).alloc _).alloc _
          case hnews => exact news_at _ _ _ (by simp)
          case h63 => unfold maxLen; omega
          case hbase => simp; omega
          intro g cap w1 hown1 hgrow hat hlt1
          have t0 : w1.cell? ⟨wr.heap.size + 1, 0, none⟩ = some (.int .i64 (se k)) := hgrow.cell (by go_simp) (by simp [Value.ownBlock])
          have t1 : w1.cell? ⟨wr.heap.size + 1, 1, none⟩ = some (.int .i64 (firstOf pl off ln k)) := hgrow.cell (by go_simp) (by simp [Value.ownBlock])
          have t2 : w1.cell? ⟨wr.heap.size + 1, 2, none⟩ = some (.int .i64 (lastOf pl off ln k)) := hgrow.cell (by go_simp) (by simp [Value.ownBlock])
          have t3 : w1.cell? ⟨wr.heap.size + 1, 3, none⟩ = some (.int .i64 (skipOf pl off ln k)) := hgrow.cell (by go_simp) (by simp [Value.ownBlock])
          have t4 : w1.cell? ⟨wr.heap.size + 1, 4, none⟩ = some (.int .i64 (lenOf pl off ln k)) := hgrow.cell (by go_simp) (by simp [Value.ownBlock])
          have bel1 : Below w.heap.size w w1 := by
            refine Below.grown ?_ hgrow (by simp; omega) (by intro j hj; simp [Value.ownBlock] at hj)
            repeat (first | exact hbel | refine bel_alloc ?_ _ | refine below_drewN ?_ _)
          have hw1 := bel1.size
          have HN := hd (own_next HIN.out hown1)
          clear hown hown1 hgrow hat
          go_wp2_with (go_at_call 31; refine (sealedEnd_any _ _ _ _ _ _ (by omega) (by omega)).mono ?_; rintro e w' ⟨rfl, rfl⟩)
          go_roundw
          case rel => exact ⟨k + 1, by omega, by go_num, rfl, rfl, by rw [startOf_yes HIN.out, if_pos HM.out]; rfl, by rw [endOf_yes HIN.out]; rfl, HN.out.alloc _, bel1.alloc (by omega) _, fun h => by rw [inc_yes HIN.out] at h; simp at h⟩
          case measure => simp [intOf]; omega
      · obtain ⟨gb, cap0, hv, hg0, hg1⟩ := hown.form (by omega)
        subst hv
        have mz : (((inc pl off ln k).length : Int) == 0) = false := by rw [beq_eq_false_iff_ne]; omega
        have HM := hd m0
        clear m0 hnil
        rcases Int.lt_or_le off (psum pl k) with c1 | c1 <;> rcases Int.lt_or_le (psum pl k + pl k) (off + ln) with c2 | c2
        · go_wp2
          go_quiet (fail)
          go_wp2_with (first | (go_at_call 29; refine (spanOf_part se pl off ln k n _ _ _ hlt hp (by omega) h0 h1 HIN.out (by have := HF.out; omega) (by have := HF.out; omega)).mono ?_; rintro e w' ⟨rfl, rfl⟩) | (go_at_call 30; refine (sealedStart_any _ _ _ _ _ _ (by omega) (by omega)).mono ?_; rintro e w' ⟨rfl, rfl⟩) | (at_builtin; refine wpList_append_lies _ rfl (.tmp 91) (.tmp 96) 62 rfl w.heap.size 66 i0 (.agg #[.pointer none, .int .i64 0, .int .i64 0, .int .i64 0, .int .i64 0, .int .i64 0]) 6 48 Trym.underlying62 HI.out.1 HI.out.2.1 HI.out.2.2.1 HI.out.2.2.2 rfl (by omega) (.slice (some ⟨gb, 0, none⟩) (inc pl off ln k).length cap0) (inc pl off ln k).length (allCells bk se pl off ln (inc pl off ln k)) (by rfl) ?hown ⟨_, 0, none⟩ 1 1 (spanCells bk se pl off ln k) (by rfl) rfl ?hnews (spanCells_one _ _ _ _ _ _) (by omega) ?h63 (by omega) ?hbase _ rfl ?_))
          case hown => exact ((((own_drawn _ (hown.alloc _)).alloc _).alloc _)).alloc _
          case hnews => exact news_at _ _ _ (by simp)
          case h63 => unfold maxLen; omega
          case hbase => simp; omega
          intro g cap w1 hown1 hgrow hat hlt1
          have t0 : w1.cell? ⟨wr.heap.size + 1, 0, none⟩ = some (.int .i64 (se k)) := hgrow.cell (by go_simp) (by simp [Value.ownBlock]; omega)
          have t1 : w1.cell? ⟨wr.heap.size + 1, 1, none⟩ = some (.int .i64 (firstOf pl off ln k)) := hgrow.cell (by go_simp) (by simp [Value.ownBlock]; omega)
          have t2 : w1.cell? ⟨wr.heap.size + 1, 2, none⟩ = some (.int .i64 (lastOf pl off ln k)) := hgrow.cell (by go_simp) (by simp [Value.ownBlock]; omega)
          have t3 : w1.cell? ⟨wr.heap.size + 1, 3, none⟩ = some (.int .i64 (skipOf pl off ln k)) := hgrow.cell (by go_simp) (by simp [Value.ownBlock]; omega)
          have t4 : w1.cell? ⟨wr.heap.size + 1, 4, none⟩ = some (.int .i64 (lenOf pl off ln k)) := hgrow.cell (by go_simp) (by simp [Value.ownBlock]; omega)
          have bel1 : Below w.heap.size w w1 := by
            refine Below.grown ?_ hgrow (by simp; omega) (by intro j hj; simp [Value.ownBlock] at hj; omega)
            repeat (first | exact hbel | refine bel_alloc ?_ _ | refine below_drewN ?_ _)
          have hw1 := bel1.size
          have HN := hd (own_next HIN.out hown1)
          clear hown hown1 hgrow hat
          go_wp2_with (go_at_call 31; refine (sealedEnd_any _ _ _ _ _ _ (by omega) (by omega)).mono ?_; rintro e w' ⟨rfl, rfl⟩)
          go_roundw
          case rel => exact ⟨k + 1, by omega, by go_num, rfl, rfl, by rw [startOf_yes HIN.out, if_neg HM.out], by rw [endOf_yes HIN.out]; rfl, HN.out.alloc _, bel1.alloc (by omega) _, fun h => by rw [inc_yes HIN.out] at h; simp at h⟩
          case measure => simp [intOf]; omega
        · go_wp2
          go_quiet (fail)
          go_wp2_with (first | (go_at_call 29; refine (spanOf_part se pl off ln k n _ _ _ hlt hp (by omega) h0 h1 HIN.out (by have := HF.out; omega) (by have := HF.out; omega)).mono ?_; rintro e w' ⟨rfl, rfl⟩) | (go_at_call 30; refine (sealedStart_any _ _ _ _ _ _ (by omega) (by omega)).mono ?_; rintro e w' ⟨rfl, rfl⟩) | (at_builtin; refine wpList_append_lies _ rfl (.tmp 91) (.tmp 96) 62 rfl w.heap.size 66 i0 (.agg #[.pointer none, .int .i64 0, .int .i64 0, .int .i64 0, .int .i64 0, .int .i64 0]) 6 48 Trym.underlying62 HI.out.1 HI.out.2.1 HI.out.2.2.1 HI.out.2.2.2 rfl (by omega) (.slice (some ⟨gb, 0, none⟩) (inc pl off ln k).length cap0) (inc pl off ln k).length (allCells bk se pl off ln (inc pl off ln k)) (by rfl) ?hown ⟨_, 0, none⟩ 1 1 (spanCells bk se pl off ln k) (by rfl) rfl ?hnews (spanCells_one _ _ _ _ _ _) (by omega) ?h63 (by omega) ?hbase _ rfl ?_))
          case hown => exact ((((own_drawn _ (hown.alloc _)).alloc _).alloc _)).alloc _
          case hnews => exact news_at _ _ _ (by simp)
          case h63 => unfold maxLen; omega
          case hbase => simp; omega
          intro g cap w1 hown1 hgrow hat hlt1
          have t0 : w1.cell? ⟨wr.heap.size + 1, 0, none⟩ = some (.int .i64 (se k)) := hgrow.cell (by go_simp) (by simp [Value.ownBlock]; omega)
          have t1 : w1.cell? ⟨wr.heap.size + 1, 1, none⟩ = some (.int .i64 (firstOf pl off ln k)) := hgrow.cell (by go_simp) (by simp [Value.ownBlock]; omega)
          have t2 : w1.cell? ⟨wr.heap.size + 1, 2, none⟩ = some (.int .i64 (lastOf pl off ln k)) := hgrow.cell (by go_simp) (by simp [Value.ownBlock]; omega)
          have t3 : w1.cell? ⟨wr.heap.size + 1, 3, none⟩ = some (.int .i64 (skipOf pl off ln k)) := hgrow.cell (by go_simp) (by simp [Value.ownBlock]; omega)
          have t4 : w1.cell? ⟨wr.heap.size + 1, 4, none⟩ = some (.int .i64 (lenOf pl off ln k)) := hgrow.cell (by go_simp) (by simp [Value.ownBlock]; omega)
          have bel1 : Below w.heap.size w w1 := by
            refine Below.grown ?_ hgrow (by simp; omega) (by intro j hj; simp [Value.ownBlock] at hj; omega)
            repeat (first | exact hbel | refine bel_alloc ?_ _ | refine below_drewN ?_ _)
          have hw1 := bel1.size
          have HN := hd (own_next HIN.out hown1)
          clear hown hown1 hgrow hat
          go_wp2_with (go_at_call 31; refine (sealedEnd_any _ _ _ _ _ _ (by omega) (by omega)).mono ?_; rintro e w' ⟨rfl, rfl⟩)
          go_roundw
          case rel => exact ⟨k + 1, by omega, by go_num, rfl, rfl, by rw [startOf_yes HIN.out, if_neg HM.out], by rw [endOf_yes HIN.out]; rfl, HN.out.alloc _, bel1.alloc (by omega) _, fun h => by rw [inc_yes HIN.out] at h; simp at h⟩
          case measure => simp [intOf]; omega
        · go_wp2
          go_quiet (fail)
          go_wp2_with (first | (go_at_call 29; refine (spanOf_part se pl off ln k n _ _ _ hlt hp (by omega) h0 h1 HIN.out (by have := HF.out; omega) (by have := HF.out; omega)).mono ?_; rintro e w' ⟨rfl, rfl⟩) | (go_at_call 30; refine (sealedStart_any _ _ _ _ _ _ (by omega) (by omega)).mono ?_; rintro e w' ⟨rfl, rfl⟩) | (at_builtin; refine wpList_append_lies _ rfl (.tmp 91) (.tmp 96) 62 rfl w.heap.size 66 i0 (.agg #[.pointer none, .int .i64 0, .int .i64 0, .int .i64 0, .int .i64 0, .int .i64 0]) 6 48 Trym.underlying62 HI.out.1 HI.out.2.1 HI.out.2.2.1 HI.out.2.2.2 rfl (by omega) (.slice (some ⟨gb, 0, none⟩) (inc pl off ln k).length cap0) (inc pl off ln k).length (allCells bk se pl off ln (inc pl off ln k)) (by rfl) ?hown ⟨_, 0, none⟩ 1 1 (spanCells bk se pl off ln k) (by rfl) rfl ?hnews (spanCells_one _ _ _ _ _ _) (by omega) ?h63 (by omega) ?hbase _ rfl ?_))
          case hown => exact ((((own_drawn _ (hown.alloc _)).alloc _).alloc _)).alloc _
          case hnews => exact news_at _ _ _ (by simp)
          case h63 => unfold maxLen; omega
          case hbase => simp; omega
          intro g cap w1 hown1 hgrow hat hlt1
          have t0 : w1.cell? ⟨wr.heap.size + 1, 0, none⟩ = some (.int .i64 (se k)) := hgrow.cell (by go_simp) (by simp [Value.ownBlock]; omega)
          have t1 : w1.cell? ⟨wr.heap.size + 1, 1, none⟩ = some (.int .i64 (firstOf pl off ln k)) := hgrow.cell (by go_simp) (by simp [Value.ownBlock]; omega)
          have t2 : w1.cell? ⟨wr.heap.size + 1, 2, none⟩ = some (.int .i64 (lastOf pl off ln k)) := hgrow.cell (by go_simp) (by simp [Value.ownBlock]; omega)
          have t3 : w1.cell? ⟨wr.heap.size + 1, 3, none⟩ = some (.int .i64 (skipOf pl off ln k)) := hgrow.cell (by go_simp) (by simp [Value.ownBlock]; omega)
          have t4 : w1.cell? ⟨wr.heap.size + 1, 4, none⟩ = some (.int .i64 (lenOf pl off ln k)) := hgrow.cell (by go_simp) (by simp [Value.ownBlock]; omega)
          have bel1 : Below w.heap.size w w1 := by
            refine Below.grown ?_ hgrow (by simp; omega) (by intro j hj; simp [Value.ownBlock] at hj; omega)
            repeat (first | exact hbel | refine bel_alloc ?_ _ | refine below_drewN ?_ _)
          have hw1 := bel1.size
          have HN := hd (own_next HIN.out hown1)
          clear hown hown1 hgrow hat
          go_wp2_with (go_at_call 31; refine (sealedEnd_any _ _ _ _ _ _ (by omega) (by omega)).mono ?_; rintro e w' ⟨rfl, rfl⟩)
          go_roundw
          case rel => exact ⟨k + 1, by omega, by go_num, rfl, rfl, by rw [startOf_yes HIN.out, if_neg HM.out], by rw [endOf_yes HIN.out]; rfl, HN.out.alloc _, bel1.alloc (by omega) _, fun h => by rw [inc_yes HIN.out] at h; simp at h⟩
          case measure => simp [intOf]; omega
        · go_wp2
          go_quiet (fail)
          go_wp2_with (first | (go_at_call 29; refine (spanOf_part se pl off ln k n _ _ _ hlt hp (by omega) h0 h1 HIN.out (by have := HF.out; omega) (by have := HF.out; omega)).mono ?_; rintro e w' ⟨rfl, rfl⟩) | (go_at_call 30; refine (sealedStart_any _ _ _ _ _ _ (by omega) (by omega)).mono ?_; rintro e w' ⟨rfl, rfl⟩) | (at_builtin; refine wpList_append_lies _ rfl (.tmp 91) (.tmp 96) 62 rfl w.heap.size 66 i0 (.agg #[.pointer none, .int .i64 0, .int .i64 0, .int .i64 0, .int .i64 0, .int .i64 0]) 6 48 Trym.underlying62 HI.out.1 HI.out.2.1 HI.out.2.2.1 HI.out.2.2.2 rfl (by omega) (.slice (some ⟨gb, 0, none⟩) (inc pl off ln k).length cap0) (inc pl off ln k).length (allCells bk se pl off ln (inc pl off ln k)) (by rfl) ?hown ⟨_, 0, none⟩ 1 1 (spanCells bk se pl off ln k) (by rfl) rfl ?hnews (spanCells_one _ _ _ _ _ _) (by omega) ?h63 (by omega) ?hbase _ rfl ?_))
          case hown => exact ((((own_drawn _ (hown.alloc _)).alloc _).alloc _)).alloc _
          case hnews => exact news_at _ _ _ (by simp)
          case h63 => unfold maxLen; omega
          case hbase => simp; omega
          intro g cap w1 hown1 hgrow hat hlt1
          have t0 : w1.cell? ⟨wr.heap.size + 1, 0, none⟩ = some (.int .i64 (se k)) := hgrow.cell (by go_simp) (by simp [Value.ownBlock]; omega)
          have t1 : w1.cell? ⟨wr.heap.size + 1, 1, none⟩ = some (.int .i64 (firstOf pl off ln k)) := hgrow.cell (by go_simp) (by simp [Value.ownBlock]; omega)
          have t2 : w1.cell? ⟨wr.heap.size + 1, 2, none⟩ = some (.int .i64 (lastOf pl off ln k)) := hgrow.cell (by go_simp) (by simp [Value.ownBlock]; omega)
          have t3 : w1.cell? ⟨wr.heap.size + 1, 3, none⟩ = some (.int .i64 (skipOf pl off ln k)) := hgrow.cell (by go_simp) (by simp [Value.ownBlock]; omega)
          have t4 : w1.cell? ⟨wr.heap.size + 1, 4, none⟩ = some (.int .i64 (lenOf pl off ln k)) := hgrow.cell (by go_simp) (by simp [Value.ownBlock]; omega)
          have bel1 : Below w.heap.size w w1 := by
            refine Below.grown ?_ hgrow (by simp; omega) (by intro j hj; simp [Value.ownBlock] at hj; omega)
            repeat (first | exact hbel | refine bel_alloc ?_ _ | refine below_drewN ?_ _)
          have hw1 := bel1.size
          have HN := hd (own_next HIN.out hown1)
          clear hown hown1 hgrow hat
          go_wp2_with (go_at_call 31; refine (sealedEnd_any _ _ _ _ _ _ (by omega) (by omega)).mono ?_; rintro e w' ⟨rfl, rfl⟩)
          go_roundw
          case rel => exact ⟨k + 1, by omega, by go_num, rfl, rfl, by rw [startOf_yes HIN.out, if_neg HM.out], by rw [endOf_yes HIN.out]; rfl, HN.out.alloc _, bel1.alloc (by omega) _, fun h => by rw [inc_yes HIN.out] at h; simp at h⟩
          case measure => simp [intOf]; omega
    · have e : k = n := by omega
      subst e
      clear hnil
      go_wp2
      go_ret3
      exact ⟨_, rfl, hown, hbel⟩
end Go.Proofs.Qxb6601507aMods
