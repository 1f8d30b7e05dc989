import Derived.Test.Qxb6601507aModsParts
namespace Go.Proofs.Qxb6601507aMods
open Go.RowKit Pl

set_option maxHeartbeats 6000000 in
set_option maxRecDepth 100000 in
theorem exact_main (ao : Option Addr) (len cap : Nat) (se pl : Nat → Int) (off ln : Int) (w : World) (hlen : len ≤ 65536) (h : CameP w ao len se pl)
    (ho1 : -9223372036854775808 ≤ off) (ho2 : off ≤ 9223372036854775807) (ha1 : -9223372036854775808 ≤ ln) (ha2 : ln ≤ 9223372036854775807) :
    Calls Trym.prog 8 #[.slice ao len cap, .int .i64 off, .int .i64 ln] w fun e w' => e = .returned (.bool true) ∧ Below w.heap.size w w' := by
  have HC := hd h
  clear h
  go_enter Trym.func8, Trym.ntmps8
  go_wp2_with (go_at_call 20; refine (zzBytes20_ok _ _ _ _ _ _ (by omega)).mono ?_; rintro e w' ⟨rfl, rfl⟩)
  go_loopw [7, 8, 9] (fun t s i wr => ∃ k : Nat, k ≤ len ∧ i = .int .i64 k ∧ t = .int .i64 (psum pl k) ∧ s = .int .i64 (psum se k) ∧ 0 ≤ psum pl k ∧ psum pl k ≤ 2305843009213693952 ∧ 0 ≤ psum se k ∧ psum se k ≤ 2305843009213693952 ∧ Hid (∀ i, i < k → 0 ≤ pl i ∧ 0 ≤ se i) ∧ Below w.heap.size w wr) (fun _ _ i _ => len - (intOf i).toNat)
  case atStart => exact ⟨0, Nat.zero_le _, rfl, rfl, rfl, by simp [psum], by simp [psum], by simp [psum], by simp [psum], fun i hi => absurd hi (by omega), Below.refl _ _⟩
  case round =>
    obtain ⟨k, hk, rfl, rfl, rfl, t0, t1, s0, s1, hz, hbel⟩ := hrel
    by_cases hlt : k < len
    · rcases HC.out with ⟨_, h0⟩ | ⟨x, rfl, hc⟩
      · omega
      obtain ⟨b, o, rfl, c1, c2⟩ := hc k hlt
      have hblt : b < w.heap.size := World.block_lt_of_cell? w _ c1
      have g1 := (hbel.cell (p := ⟨b, o + k * 2, none⟩) hblt).trans c1
      have g2 := (hbel.cell (p := ⟨b, o + k * 2 + 1, none⟩) hblt).trans c2
      have HB := hd hbel
      clear hc c1 c2 hbel hblt HC
      by_cases p1 : pl k < 0
      · go_wp2
        go_ret
        exact ⟨rfl, bel_alloc HB.out _⟩
      have p1' : decide (pl k < 0) = false := by simp; omega
      by_cases p2 : se k < 0
      · go_wp2
        go_ret
        exact ⟨rfl, bel_alloc HB.out _⟩
      have p2' : decide (se k < 0) = false := by simp; omega
      by_cases p3 : 2305843009213693952 - psum pl k < pl k
      · go_wp2
        go_ret
        exact ⟨rfl, bel_alloc HB.out _⟩
      have p3' : decide (2305843009213693952 - psum pl k < pl k) = false := by simp; omega
      by_cases p4 : 2305843009213693952 - psum se k < se k
      · go_wp2
        go_ret
        exact ⟨rfl, bel_alloc HB.out _⟩
      have p4' : decide (2305843009213693952 - psum se k < se k) = false := by simp; omega
      go_wp2
      go_roundw
      case rel =>
        refine ⟨k + 1, by omega, by go_num, rfl, rfl, by rw [psum_succ]; omega, by rw [psum_succ]; omega, by rw [psum_succ]; omega, by rw [psum_succ]; omega, fun i hi => ?_, bel_alloc HB.out _⟩
        by_cases e : i = k
        · subst e; omega
        · exact hz.out i (by omega)
      case measure => simp [intOf]; omega
    · have e : k = len := by omega
      subst e
      generalize hT : psum pl k = T at t0 t1 ⊢
      generalize hS : psum se k = S at s0 s1 ⊢
      have HT := hd hT
      have HS := hd hS
      have HB := hd hbel
      clear hT hS hbel
      by_cases c1 : off < 0
      · go_wp2
        go_ret
        exact ⟨rfl, HB.out⟩
      have d1 : decide (off < 0) = false := by simp; omega
      by_cases c2 : ln < 0
      · go_wp2
        go_ret
        exact ⟨rfl, HB.out⟩
      have d2 : decide (ln < 0) = false := by simp; omega
      by_cases c3 : T < ln
      · go_wp2
        go_ret
        exact ⟨rfl, HB.out⟩
      have d3 : decide (T < ln) = false := by simp; omega
      by_cases c4 : T - ln < off
      · go_wp2
        go_ret
        exact ⟨rfl, HB.out⟩
      have d4 : decide (T - ln < off) = false := by simp; omega
      go_wp2_with fail
      refine (clone21 ao k cap se pl wr (by omega) (HC.out.below HB.out)).mono ?_
      rintro e W1 ⟨a1, rfl, hm1, hb1⟩
      have HB1 : Hid (Below w.heap.size w W1) := HB.out.trans (hb1.mono HB.out.size)
      obtain ⟨Bp, HM⟩ : ∃ Bp, Hid (MadeP W1 Bp a1 k se pl) := ⟨_, hm1⟩
      have mk := run_make_row' (P := Trym.prog) 39 2 (.int .i64 0) 8 Trym.underlying39 Trym.info2 rfl .i64 .i64 k (by omega) (by omega)
      clear hm1 hb1 HB HC
      go_wp2
      go_loopw [13] (fun i wr => ∃ j : Nat, j ≤ k ∧ i = .int .i64 j ∧ wr.rowIs W1.heap.size 2 k (fun x => if x < j then .int .i64 (se x) else .int .i64 0) ∧ wr.rowIs (W1.heap.size + 1) 2 k (fun x => if x < j then .int .i64 (pl x) else .int .i64 0) ∧ Below W1.heap.size W1 wr) (fun i _ => k - (intOf i).toNat)
      case atStart =>
        refine ⟨0, Nat.zero_le _, rfl, ((World.rowIs_made W1 (.int .i64 0) k 2).alloc _).congr (by intro i _; simp), ?_, bel_alloc (bel_alloc (Below.refl _ _) _) _⟩
        have h := World.rowIs_made (W1.alloc (.cells (madeCells #[.int .i64 0] k) 2)) (.int .i64 0) k 2
        rw [World.size_alloc] at h
        exact h.congr (by intro i _; simp)
      case round =>
        obtain ⟨j, hj, rfl, r1, r2, hbw⟩ := hrel
        by_cases hlt2 : j < k
        · rcases HM.out with ⟨_, h0⟩ | ⟨rfl, hBp, hc⟩
          · omega
          have g1 := (hbw.cell (p := ⟨Bp, j * 2, none⟩) hBp).trans (hc j hlt2).1
          have g2 := (hbw.cell (p := ⟨Bp, j * 2 + 1, none⟩) hBp).trans (hc j hlt2).2
          have q1 := r1.cell hlt2
          have q2 := r1.frozen j
          have q3 := r2.cell hlt2
          have q4 := r2.frozen j
          simp at q1 q3
          have ne1 : Bp ≠ W1.heap.size := by omega
          have R1 := hd (((r1.set j (.int .i64 (se j))).setOther (a := ⟨W1.heap.size + 1, j, none⟩) (by simp) (.int .i64 (pl j))).congr (g := fun x => if x < j + 1 then .int .i64 (se x) else .int .i64 0) (by
            intro i _; by_cases e : i = j
            · subst e; simp
            · by_cases e2 : i < j <;> simp [e, e2] <;> omega))
          have R2 := hd (((r2.setOther (a := ⟨W1.heap.size, j, none⟩) (by simp) (.int .i64 (se j))).set j (.int .i64 (pl j))).congr (g := fun x => if x < j + 1 then .int .i64 (pl x) else .int .i64 0) (by
            intro i _; by_cases e : i = j
            · subst e; simp
            · by_cases e2 : i < j <;> simp [e, e2] <;> omega))
          have R3 := hd ((hbw.setCell (p := ⟨W1.heap.size, j, none⟩) (Nat.le_refl _) (.int .i64 (se j))).setCell (p := ⟨W1.heap.size + 1, j, none⟩) (Nat.le_succ _) (.int .i64 (pl j)))
          clear hc r1 r2 hbw mk
          go_wp2
          go_roundw
          case rel => exact ⟨j + 1, by omega, by go_num, R1.out, R2.out, R3.out⟩
          case measure => simp [intOf]; omega
        · have e : j = k := by omega
          subst e
          have hp : Hid (∀ i, i < j → 0 ≤ pl i) := fun i hi => (hz.out i hi).1
          have hs : Hid (∀ i, i < j → 0 ≤ se i) := fun i hi => (hz.out i hi).2
          have c1' : Hid (∀ i, i < j → wr.cell? ⟨W1.heap.size, i, none⟩ = some (.int .i64 (se i))) := fun i hi => by rw [r1.cell hi]; simp [hi]
          have c2' : Hid (∀ i, i < j → wr.cell? ⟨W1.heap.size + 1, i, none⟩ = some (.int .i64 (pl i))) := fun i hi => by rw [r2.cell hi]; simp [hi]
          have HM2 : Hid (MadeP wr Bp a1 j se pl) := HM.out.below hbw rfl
          have HB2 : Hid (Below w.heap.size w wr) := HB1.out.trans (hbw.mono HB1.out.size)
          clear r1 r2 hbw mk HM HB1 hz
          go_wp2_with fail
          refine (zzSpans_any W1.heap.size (W1.heap.size + 1) j j j se pl off ln wr (by omega) c1'.out c2'.out hp.out hs.out (by rw [HT.out]; omega) (by rw [HS.out]; omega) (by omega) (by omega) (by rw [HT.out]; omega)).mono ?_
          rintro e W5 ⟨bo, rfl, o1, o2, hb5, hout⟩
          have HM5 : Hid (MadeP W5 Bp a1 j se pl) := HM2.out.below hb5 rfl
          have HB5 : Hid (Below w.heap.size w W5) := HB2.out.trans (hb5.mono HB2.out.size)
          have HO := hd hout
          have hTl : Hid (psum pl j ≤ 2305843009213693952) := by show _ ≤ _; rw [HT.out]; exact t1
          have hSl : Hid (psum se j ≤ 2305843009213693952) := by show _ ≤ _; rw [HS.out]; exact s1
          have hR : Hid (off + ln ≤ psum pl j) := by show _ ≤ _; rw [HT.out]; omega
          clear c1' c2' HM2 HB2 hb5 hout o1 HT HS
          go_wp2
          go_loopw [17, 18, 19, 20, 21, 22] (fun ws we be at' jj i wr => ∃ q : Nat, q ≤ j ∧ i = .int .i64 q ∧ jj = .int .i64 ((inc pl off ln q).length : Nat) ∧ be = .int .i64 (psum pl q) ∧ at' = .int .i64 (psum se q) ∧ ws = .int .i64 (startOf se pl off ln q) ∧ we = .int .i64 (endOf se pl off ln q) ∧ Below W5.heap.size W5 wr) (fun _ _ _ _ _ i _ => j - (intOf i).toNat)
          case atStart => exact ⟨0, Nat.zero_le _, rfl, rfl, rfl, rfl, rfl, rfl, Below.refl _ _⟩
          case round =>
            obtain ⟨q, hq, rfl, rfl, rfl, rfl, rfl, rfl, hbq⟩ := hrel
            by_cases hlt3 : q < j
            · rcases HM5.out with ⟨_, h0⟩ | ⟨rfl, hBp, hc⟩
              · omega
              have g1 := (hbq.cell (p := ⟨Bp, q * 2, none⟩) hBp).trans (hc q hlt3).1
              have g2 := (hbq.cell (p := ⟨Bp, q * 2 + 1, none⟩) hBp).trans (hc q hlt3).2
              have p0 := psum_nonneg pl j hp.out q hq
              have p1 := psum_mono pl j hp.out (q + 1) j (by omega) (Nat.le_refl _)
              have p2 := hp.out q hlt3
              have q0 := psum_nonneg se j hs.out q hq
              have q1 := psum_mono se j hs.out (q + 1) j (by omega) (Nat.le_refl _)
              have q2 := hs.out q hlt3
              have p3 := hTl.out
              have q3 := hSl.out
              have r3 := hR.out
              have hle := inc_len_le pl off ln q
              rw [psum_succ] at p1 q1
              have HBQ := hd hbq
              clear hc hbq
              by_cases z : ln = 0
              · by_cases k0' : q = 0
                · have HIN : Hid (incB pl off ln q = true) := by show incB pl off ln q = true; simp [incB, z, k0']
                  have hf0 : fromOf pl off ln q = 0 := by simp [fromOf, z]
                  have hl0 : lenOf pl off ln q = 0 := by simp [lenOf, z]
                  have HB1 : Hid (firstOf pl off ln q = 0 / 65536) := by show firstOf pl off ln q = 0 / 65536; rw [firstOf, hf0]
                  have HB2 : Hid (lastOf pl off ln q = max (0 + 0 - 1) 0 / 65536) := by show lastOf pl off ln q = _; rw [lastOf, hf0, hl0]
                  have HB3 : Hid (skipOf pl off ln q = 0 - firstOf pl off ln q * 65536) := by show skipOf pl off ln q = _; rw [skipOf, hf0]
                  have n1 : (lenOf pl off ln q != 0) = false := by rw [hl0]; rfl
                  have HMM : Hid ((inc pl off ln q).length = 0) := by show (inc pl off ln q).length = 0; omega
                  have mz : (((inc pl off ln q).length : Int) == 0) = true := by rw [beq_iff_eq]; have := HMM.out; omega
                  have zt : (ln == 0) = true := by simp [z]
                  have kt : ((q : Int) == 0) = true := by simp [k0']
                  clear z k0' hf0 hl0
                  have hget := inc_get hlt3 HIN.out
                  have hgd : (inc pl off ln j).getD (inc pl off ln q).length 0 = q := by rw [List.getD_eq_getElem?_getD, hget.2]; rfl
                  have oc := HO.out _ hget.1
                  rw [hgd] at oc
                  have fb := part_blocks hlt3 hp.out (by omega) (by omega) (by omega) HIN.out
                  have k0 := (HBQ.out.cell (p := ⟨bo, (inc pl off ln q).length * 6, none⟩) o2).trans oc.1
                  have k1 := (HBQ.out.cell (p := ⟨bo, (inc pl off ln q).length * 6 + 1, none⟩) o2).trans oc.2.1
                  have k2 := (HBQ.out.cell (p := ⟨bo, (inc pl off ln q).length * 6 + 2, none⟩) o2).trans oc.2.2.1
                  have k3 := (HBQ.out.cell (p := ⟨bo, (inc pl off ln q).length * 6 + 3, none⟩) o2).trans oc.2.2.2.1
                  have k4 := (HBQ.out.cell (p := ⟨bo, (inc pl off ln q).length * 6 + 4, none⟩) o2).trans oc.2.2.2.2.1
                  have k5 := (HBQ.out.cell (p := ⟨bo, (inc pl off ln q).length * 6 + 5, none⟩) o2).trans oc.2.2.2.2.2
                  have hbo : bo < wr.heap.size := Nat.lt_of_lt_of_le o2 HBQ.out.size
                  have l1 : ((inc pl off ln q).length : Int) < ((inc pl off ln j).length : Int) := by have := hget.1; omega
                  have l2 : decide (((inc pl off ln j).length : Int) ≤ ((inc pl off ln q).length : Int)) = false := by simp; omega
                  have l3 : (0 : Int) ≤ ((inc pl off ln q).length : Int) := by omega
                  clear oc hgd hget
                  go_wp2_with (first | (go_at_call 23; refine (max23 _ _ _).mono ?_; rintro e w' ⟨rfl, rfl⟩) | (go_at_call 24; refine (min24 _ _ _).mono ?_; rintro e w' ⟨rfl, rfl⟩) | (go_at_call 18; refine (blockOK_any _ _ _ _ _ _ (by omega) (by omega) (by omega) HB1 HB2 HB3).mono ?_; rintro e w' ⟨rfl, hw18⟩; subst hw18))
                  go_roundw
                  case rel => exact ⟨q + 1, by omega, by go_num, by rw [inc_yes HIN.out]; simp, rfl, rfl, by rw [startOf_yes HIN.out, if_pos HMM.out]; rfl, by rw [endOf_yes HIN.out]; rfl, bel_alloc (bel_alloc HBQ.out _) _⟩
                  case measure => simp [intOf]; omega
                · have HNO : Hid (incB pl off ln q = false) := by show incB pl off ln q = false; simp [incB, z, k0']
                  have zt : (ln == 0) = true := by simp [z]
                  have kt : ((q : Int) == 0) = false := by simp; omega
                  clear z k0'
                  go_wp2
                  go_roundw
                  case rel => exact ⟨q + 1, by omega, by go_num, by rw [inc_no HNO.out], rfl, rfl, by rw [startOf_no HNO.out], by rw [endOf_no HNO.out], bel_alloc HBQ.out _⟩
                  case measure => simp [intOf]; omega
              have z' : (ln == 0) = false := by simp [z]
              by_cases a1 : psum pl q + pl q ≤ off
              · have a1' : decide (off < psum pl q + pl q) = false := by simp; omega
                have HNO : Hid (incB pl off ln q = false) := by show incB pl off ln q = false; unfold incB; rw [if_neg z, psum_succ]; exact decide_eq_false (by omega)
                go_wp2
                go_roundw
                case rel => exact ⟨q + 1, by omega, by go_num, by rw [inc_no HNO.out], rfl, rfl, by rw [startOf_no HNO.out], by rw [endOf_no HNO.out], bel_alloc HBQ.out _⟩
                case measure => simp [intOf]; omega
              have a1' : decide (off < psum pl q + pl q) = true := by simp; omega
              by_cases a2 : off + ln ≤ psum pl q
              · have a2' : decide (psum pl q < off + ln) = false := by simp; omega
                have HNO : Hid (incB pl off ln q = false) := by show incB pl off ln q = false; unfold incB; rw [if_neg z, psum_succ]; exact decide_eq_false (by omega)
                go_wp2
                go_roundw
                case rel => exact ⟨q + 1, by omega, by go_num, by rw [inc_no HNO.out], rfl, rfl, by rw [startOf_no HNO.out], by rw [endOf_no HNO.out], bel_alloc HBQ.out _⟩
                case measure => simp [intOf]; omega
              have a2' : decide (psum pl q < off + ln) = true := by simp; omega
              have HIN : Hid (incB pl off ln q = true) := by show incB pl off ln q = true; unfold incB; rw [if_neg z, psum_succ]; exact decide_eq_true ⟨by omega, by omega⟩
              have hf0 : fromOf pl off ln q = max off (psum pl q) - psum pl q := by simp [fromOf, z]
              have hl0 : lenOf pl off ln q = min (off + ln) (psum pl q + pl q) - max off (psum pl q) := by simp [lenOf, z, psum_succ]; omega
              have HB1 : Hid (firstOf pl off ln q = (max off (psum pl q) - psum pl q) / 65536) := by show firstOf pl off ln q = _; rw [firstOf, hf0]
              have HB2 : Hid (lastOf pl off ln q = max (max off (psum pl q) - psum pl q + (min (off + ln) (psum pl q + pl q) - max off (psum pl q)) - 1) (max off (psum pl q) - psum pl q) / 65536) := by show lastOf pl off ln q = _; rw [lastOf, hf0, hl0]
              have HB3 : Hid (skipOf pl off ln q = max off (psum pl q) - psum pl q - firstOf pl off ln q * 65536) := by show skipOf pl off ln q = _; rw [skipOf, hf0]
              have n1 : (lenOf pl off ln q != min (off + ln) (psum pl q + pl q) - max off (psum pl q)) = false := by rw [hl0]; simp
              clear hf0 hl0
              have hget := inc_get hlt3 HIN.out
              have hgd : (inc pl off ln j).getD (inc pl off ln q).length 0 = q := by rw [List.getD_eq_getElem?_getD, hget.2]; rfl
              have oc := HO.out _ hget.1
              rw [hgd] at oc
              have fb := part_blocks hlt3 hp.out (by omega) (by omega) (by omega) HIN.out
              have k0 := (HBQ.out.cell (p := ⟨bo, (inc pl off ln q).length * 6, none⟩) o2).trans oc.1
              have k1 := (HBQ.out.cell (p := ⟨bo, (inc pl off ln q).length * 6 + 1, none⟩) o2).trans oc.2.1
              have k2 := (HBQ.out.cell (p := ⟨bo, (inc pl off ln q).length * 6 + 2, none⟩) o2).trans oc.2.2.1
              have k3 := (HBQ.out.cell (p := ⟨bo, (inc pl off ln q).length * 6 + 3, none⟩) o2).trans oc.2.2.2.1
              have k4 := (HBQ.out.cell (p := ⟨bo, (inc pl off ln q).length * 6 + 4, none⟩) o2).trans oc.2.2.2.2.1
              have k5 := (HBQ.out.cell (p := ⟨bo, (inc pl off ln q).length * 6 + 5, none⟩) o2).trans oc.2.2.2.2.2
              have hbo : bo < wr.heap.size := Nat.lt_of_lt_of_le o2 HBQ.out.size
              have l1 : ((inc pl off ln q).length : Int) < ((inc pl off ln j).length : Int) := by have := hget.1; omega
              have l2 : decide (((inc pl off ln j).length : Int) ≤ ((inc pl off ln q).length : Int)) = false := by simp; omega
              have l3 : (0 : Int) ≤ ((inc pl off ln q).length : Int) := by omega
              clear oc hgd hget
              by_cases m0 : (inc pl off ln q).length = 0
              · have HMM := hd m0
                have mz : (((inc pl off ln q).length : Int) == 0) = true := by rw [beq_iff_eq]; omega
                clear m0
                go_wp2_with (first | (go_at_call 23; refine (max23 _ _ _).mono ?_; rintro e w' ⟨rfl, rfl⟩) | (go_at_call 24; refine (min24 _ _ _).mono ?_; rintro e w' ⟨rfl, rfl⟩) | (go_at_call 18; refine (blockOK_any _ _ _ _ _ _ (by omega) (by omega) (by omega) HB1 HB2 HB3).mono ?_; rintro e w' ⟨rfl, hw18⟩; subst hw18))
                go_roundw
                case rel => exact ⟨q + 1, by omega, by go_num, by rw [inc_yes HIN.out]; simp, rfl, rfl, by rw [startOf_yes HIN.out, if_pos HMM.out]; rfl, by rw [endOf_yes HIN.out]; rfl, bel_alloc (bel_alloc HBQ.out _) _⟩
                case measure => simp [intOf]; omega
              · have HMM := hd m0
                have mz : (((inc pl off ln q).length : Int) == 0) = false := by rw [beq_eq_false_iff_ne]; omega
                clear m0
                go_wp2_with (first | (go_at_call 23; refine (max23 _ _ _).mono ?_; rintro e w' ⟨rfl, rfl⟩) | (go_at_call 24; refine (min24 _ _ _).mono ?_; rintro e w' ⟨rfl, rfl⟩) | (go_at_call 18; refine (blockOK_any _ _ _ _ _ _ (by omega) (by omega) (by omega) HB1 HB2 HB3).mono ?_; rintro e w' ⟨rfl, hw18⟩; subst hw18))
                go_roundw
                case rel => exact ⟨q + 1, by omega, by go_num, by rw [inc_yes HIN.out]; simp, rfl, rfl, by rw [startOf_yes HIN.out, if_neg HMM.out], by rw [endOf_yes HIN.out]; rfl, bel_alloc (bel_alloc HBQ.out _) _⟩
                case measure => simp [intOf]; omega
            · have e : q = j := by omega
              subst e
              have HBQ := hd hbq
              clear hbq
              go_wp2
              go_ret
              exact ⟨ret_true (by simp), HB5.out.trans (HBQ.out.mono HB5.out.size)⟩
end Go.Proofs.Qxb6601507aMods
