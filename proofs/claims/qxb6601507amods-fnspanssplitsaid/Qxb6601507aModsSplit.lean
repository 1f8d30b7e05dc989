import Derived.Test.Qxb6601507aModsZZ
import Derived.Test.Qxb6601507aModsClone
import Derived.Test.Qxb6601507aModsSplitLaw
namespace Go.Proofs.Qxb6601507aMods
open Go.RowKit Pl

set_option maxHeartbeats 400000 in
theorem sealedOf27 (p : Int) (w : World) (h0 : 1 ≤ p) (h1 : p ≤ 2305843009213693952) :
    Calls Trym.prog 27 #[.int .i64 p] w fun e w' => e = .returned (.int .i64 (sealedOf p)) ∧ w' = w := by
  unfold sealedOf
  have d2 : (p == 0) = false := by simp; omega
  by_cases c : p % 65536 = 0
  · have d1 : (p % 65536 != 0) = false := by simp [c]
    rw [if_neg (by omega)]
    clear c
    go_enter Trym.func27, Trym.ntmps27
    go_wp2
    go_ret
    exact ⟨rfl, rfl⟩
  · have d1 : (p % 65536 != 0) = true := by simp [c]
    rw [if_pos (by omega)]
    clear c
    go_enter Trym.func27, Trym.ntmps27
    go_wp2
    go_ret
    exact ⟨rfl, rfl⟩

/-- ZZSpansB1 where the parts that are met are a run: the keys alone -/
theorem zzSpans_keys (bs bp cs cp n : Nat) (se pl : Nat → Int) (off ln : Int) (w : World) (hn : n ≤ 131072)
    (hcs : ∀ i, i < n → w.cell? ⟨bs, i, none⟩ = some (.int .i64 (se i)))
    (hcp : ∀ i, i < n → w.cell? ⟨bp, i, none⟩ = some (.int .i64 (pl i)))
    (hp : ∀ i, i < n → 0 ≤ pl i) (hs : ∀ i, i < n → 0 ≤ se i) (hpt : psum pl n ≤ 2305843009213693952) (hst : psum se n ≤ 4611686018427387904)
    (h0 : 0 ≤ off) (h1 : 0 ≤ ln) (h2 : off + ln ≤ psum pl n) (l m : Nat) (st en : Int) (e1 : inc pl off ln n = List.range' l m) (e2 : startOf se pl off ln n = st) (e3 : endOf se pl off ln n = en) :
    Calls Trym.prog 22 #[.slice (some ⟨bs, 0, none⟩) n cs, .slice (some ⟨bp, 0, none⟩) n cp, .int .i64 off, .int .i64 ln] w fun e w' => ∃ bo : Nat,
      e = .returned (.tuple #[.slice (some ⟨bo, 0, none⟩) m m, .int .i64 st, .int .i64 en]) ∧ w.heap.size ≤ bo ∧ bo < w'.heap.size ∧ Below w.heap.size w w' ∧
      ∀ j, j < m → w'.cell? ⟨bo, j * 6, none⟩ = some (.int .i64 ((l : Int) + (j : Int))) := by
  refine (zzSpans_any bs bp cs cp n se pl off ln w hn hcs hcp hp hs hpt hst h0 h1 h2).mono ?_
  rintro e w' ⟨bo, rfl, a1, a2, a3, a4⟩
  rw [e1] at a4
  have hm : (List.range' l m).length = m := by simp
  refine ⟨bo, ?_, a1, a2, a3, fun j hj => ?_⟩
  · rw [e1, e2, e3, hm]
  · rw [(a4 j (by rw [hm]; exact hj)).1, range'_get l m j hj]
    rfl

set_option maxHeartbeats 3000000 in
set_option maxRecDepth 100000 in
theorem split_main (b off len cap : Nat) (z : Nat → Int) (o a c : Int) (w : World) (hlen : len ≤ 131072) (hc : ∀ i, i < len → w.cell? ⟨b, off + i, none⟩ = some (.int .i64 (z i)))
    (ho1 : -9223372036854775808 ≤ o) (ho2 : o ≤ 9223372036854775807) (ha1 : -9223372036854775808 ≤ a) (ha2 : a ≤ 9223372036854775807) (hc1 : -9223372036854775808 ≤ c) (hc2 : c ≤ 9223372036854775807) :
    Calls Trym.prog 9 #[.slice (some ⟨b, off, none⟩) len cap, .int .i64 o, .int .i64 a, .int .i64 c] w fun e w' => e = .returned (.bool true) ∧ Below w.heap.size w w' := by
  go_enter Trym.func9, Trym.ntmps9
  go_wp2_with (go_at_call 25; refine (zzBytes25_ok _ _ _ _ _ _ _ (by omega)).mono ?_; rintro e w' ⟨rfl, rfl⟩)
  go_loop [9, 10] (fun t i => ∃ k : Nat, k ≤ len ∧ i = .int .i64 k ∧ t = .int .i64 (psum z k) ∧ 0 ≤ psum z k ∧ psum z k ≤ 2305843009213693952 ∧ Hid (∀ i, i < k → 1 ≤ z i)) (fun _ i => len - (intOf i).toNat)
  case atStart => exact ⟨0, Nat.zero_le _, rfl, rfl, by simp [psum], by simp [psum], fun i hi => absurd hi (by omega)⟩
  case round =>
    obtain ⟨k, hk, rfl, rfl, t0, t1, hz⟩ := hrel
    by_cases hlt : k < len
    · have s1 := hc k hlt
      clear hc
      by_cases p1 : z k < 1
      · go_wp2
        go_ret
        exact ⟨rfl, Below.refl _ _⟩
      have p1' : decide (z k < 1) = false := by simp; omega
      by_cases p2 : 2305843009213693952 - psum z k < z k
      · go_wp2
        go_ret
        exact ⟨rfl, Below.refl _ _⟩
      have p2' : decide (2305843009213693952 - psum z k < z k) = false := by simp; omega
      go_wp2
      go_round
      case rel =>
        refine ⟨k + 1, by omega, by go_num, rfl, by rw [psum_succ]; omega, by rw [psum_succ]; omega, fun i hi => ?_⟩
        by_cases e : i = k
        · subst e; omega
        · exact hz.out i (by omega)
      case measure => simp [intOf]; omega
    · have e : k = len := by omega
      subst e
      generalize hT : psum z k = T at t0 t1 ⊢
      have HT := hd hT
      clear hT
      by_cases c1 : o < 0
      · go_wp2
        go_ret
        exact ⟨rfl, Below.refl _ _⟩
      have d1 : decide (o < 0) = false := by simp; omega
      by_cases c2 : a < 1
      · go_wp2
        go_ret
        exact ⟨rfl, Below.refl _ _⟩
      have d2 : decide (a < 1) = false := by simp; omega
      by_cases c3 : c < 1
      · go_wp2
        go_ret
        exact ⟨rfl, Below.refl _ _⟩
      have d3 : decide (c < 1) = false := by simp; omega
      by_cases c4 : T < a
      · go_wp2
        go_ret
        exact ⟨rfl, Below.refl _ _⟩
      have d4 : decide (T < a) = false := by simp; omega
      by_cases c5 : T - a < c
      · go_wp2
        go_ret
        exact ⟨rfl, Below.refl _ _⟩
      have d5 : decide (T - a < c) = false := by simp; omega
      by_cases c6 : T - a - c < o
      · go_wp2
        go_ret
        exact ⟨rfl, Below.refl _ _⟩
      have d6 : decide (T - a - c < o) = false := by simp; omega
      go_wp2_with fail
      refine (clone26 b off k cap z w (by omega) hc).mono ?_
      rintro e W1 ⟨rfl, hrow, hb1⟩
      have mk := run_make_row' (P := Trym.prog) 39 2 (.int .i64 0) 8 Trym.underlying39 Trym.info2 rfl .i64 .i64 k (by omega) (by omega)
      have hlt1 := hrow.lt
      have HR := hd hrow
      have HB := hd hb1
      clear hrow hb1 hc
      go_wp2
      go_loopw [13] (fun i wr => ∃ j : Nat, j ≤ k ∧ i = .int .i64 j ∧ wr.rowIs W1.heap.size 2 k (fun x => if x < j then .int .i64 (sealedOf (z x)) else .int .i64 0) ∧ Below W1.heap.size W1 wr) (fun i _ => k - (intOf i).toNat)
      case atStart => exact ⟨0, Nat.zero_le _, rfl, (World.rowIs_made _ _ _ _).congr (by intro i _; simp), bel_alloc (Below.refl _ _) _⟩
      case round =>
        obtain ⟨j, hj, rfl, hrw, hbw⟩ := hrel
        by_cases hlt2 : j < k
        · have s1 : wr.cell? ⟨w.heap.size, j, none⟩ = some (.int .i64 (z j)) := (hbw.cell hlt1).trans (HR.out.cell hlt2)
          have s2 := hrw.cell hlt2
          have s3 := hrw.frozen j
          simp at s2
          have z1 : 1 ≤ z j := hz.out j hlt2
          have z2 : z j ≤ 2305843009213693952 := by
            have e1 := psum_mono z k (fun i hi => by have := hz.out i hi; omega) (j + 1) k (by omega) (Nat.le_refl _)
            have e2 := psum_nonneg z k (fun i hi => by have := hz.out i hi; omega) j (by omega)
            have e3 := HT.out
            rw [psum_succ] at e1
            omega
          have hrow2 := hd ((hrw.set j (.int .i64 (sealedOf (z j)))).congr (g := fun x => if x < j + 1 then .int .i64 (sealedOf (z x)) else .int .i64 0) (by
            intro i _; by_cases e : i = j
            · subst e; simp
            · by_cases e2 : i < j <;> simp [e, e2] <;> omega))
          have hbel2 := hd (hbw.setCell (p := ⟨W1.heap.size, j, none⟩) (Nat.le_refl _) (.int .i64 (sealedOf (z j))))
          clear hrw hbw mk
          go_wp2_with (go_at_call 27; refine (sealedOf27 _ _ (by omega) (by omega)).mono ?_; rintro e w' ⟨rfl, rfl⟩)
          go_roundw
          case rel => exact ⟨j + 1, by omega, by go_num, hrow2.out, hbel2.out⟩
          case measure => simp [intOf]; omega
        · have e : j = k := by omega
          subst e
          obtain ⟨l1, m1, l2, m2, m3, st1, en1, st2, en2, f1, f2, f3, f4, f5, i1, i2, i3, x1, x2, x3, x4, x5, x6, y1, y2, y3, y4, y5, y6, y7⟩ := split_named z j o a c hz.out (by omega) (by omega) (by omega) (by rw [HT.out]; omega)
          have HX := hd (And.intro i1 (And.intro i2 (And.intro i3 (And.intro x1 (And.intro x2 (And.intro x3 (And.intro x4 (And.intro x5 x6))))))))
          have Hse : Hid (∀ i, i < j → wr.cell? ⟨W1.heap.size, i, none⟩ = some (.int .i64 (sealedOf (z i)))) := fun i hi => by rw [hrw.cell hi]; simp [hi]
          have Hpl : Hid (∀ i, i < j → wr.cell? ⟨w.heap.size, i, none⟩ = some (.int .i64 (z i))) := fun i hi => (hbw.cell hlt1).trans (HR.out.cell hi)
          have g0 : Hid (∀ i, i < j → 0 ≤ z i) := fun i hi => by have := hz.out i hi; omega
          have g1 : Hid (∀ i, i < j → 0 ≤ sealedOf (z i)) := fun i hi => by have := hz.out i hi; have := (sealedOf_bd (p := z i) (by omega)).1; omega
          have g2 : Hid (psum z j ≤ 2305843009213693952) := by show _ ≤ _; rw [HT.out]; exact t1
          have g3 : Hid (psum (fun i => sealedOf (z i)) j ≤ 4611686018427387904) := by
            have := psum_sealed z j hz.out
            have := g2.out
            show _ ≤ _
            omega
          have HBW : Hid (Below w.heap.size w wr) := HB.out.trans (hbw.mono HB.out.size)
          have hs1 := hrw.lt
          clear i1 i2 i3 x1 x2 x3 x4 x5 x6 mk hrw hbw HR HB
          go_wp2_with fail
          refine (zzSpans_keys W1.heap.size w.heap.size j j j (fun i => sealedOf (z i)) z o a wr hlen Hse.out Hpl.out g0.out g1.out g2.out g3.out (by omega) (by omega) (by rw [HT.out]; omega) l1 m1 st1 en1 HX.out.1 HX.out.2.2.2.1 HX.out.2.2.2.2.1).mono ?_
          rintro e w3 ⟨bo1, rfl, u1, u2, u3, u4⟩
          have Hse3 : Hid (∀ i, i < j → w3.cell? ⟨W1.heap.size, i, none⟩ = some (.int .i64 (sealedOf (z i)))) := fun i hi => (u3.cell hs1).trans (Hse.out i hi)
          have Hpl3 : Hid (∀ i, i < j → w3.cell? ⟨w.heap.size, i, none⟩ = some (.int .i64 (z i))) := fun i hi => (u3.cell (Nat.lt_trans hlt1 hs1)).trans (Hpl.out i hi)
          have HB3 : Hid (Below w.heap.size w w3) := HBW.out.trans (u3.mono HBW.out.size)
          have hs3 : W1.heap.size < w3.heap.size := Nat.lt_of_lt_of_le hs1 u3.size
          have U4 := hd u4
          clear Hse Hpl HBW u3 u4 u1 hs1
          go_wp2_with fail
          refine (zzSpans_keys W1.heap.size w.heap.size j j j (fun i => sealedOf (z i)) z (o + a) c w3 hlen Hse3.out Hpl3.out g0.out g1.out g2.out g3.out (by omega) (by omega) (by rw [HT.out]; omega) l2 m2 st2 en2 HX.out.2.1 HX.out.2.2.2.2.2.1 HX.out.2.2.2.2.2.2.1).mono ?_
          rintro e w4 ⟨bo2, rfl, v1, v2, v3, v4⟩
          have Hse4 : Hid (∀ i, i < j → w4.cell? ⟨W1.heap.size, i, none⟩ = some (.int .i64 (sealedOf (z i)))) := fun i hi => (v3.cell hs3).trans (Hse3.out i hi)
          have Hpl4 : Hid (∀ i, i < j → w4.cell? ⟨w.heap.size, i, none⟩ = some (.int .i64 (z i))) := fun i hi => (v3.cell (Nat.lt_trans hlt1 hs3)).trans (Hpl3.out i hi)
          have HB4 : Hid (Below w.heap.size w w4) := HB3.out.trans (v3.mono HB3.out.size)
          have U4' : Hid (∀ i, i < m1 → w4.cell? ⟨bo1, i * 6, none⟩ = some (.int .i64 ((l1 : Int) + (i : Int)))) := fun i hi => (v3.cell u2).trans (U4.out i hi)
          have u2' : bo1 < w4.heap.size := Nat.lt_of_lt_of_le u2 v3.size
          have V4 := hd v4
          clear Hse3 Hpl3 HB3 v3 v4 v1 hs3 U4 u2
          go_wp2_with fail
          refine (zzSpans_keys W1.heap.size w.heap.size j j j (fun i => sealedOf (z i)) z o (a + c) w4 hlen Hse4.out Hpl4.out g0.out g1.out g2.out g3.out (by omega) (by omega) (by rw [HT.out]; omega) l1 m3 st1 en2 HX.out.2.2.1 HX.out.2.2.2.2.2.2.2.1 HX.out.2.2.2.2.2.2.2.2).mono ?_
          rintro e w5 ⟨bo3, rfl, x1, x2, x3, x4⟩
          have KK : Hid ((∀ i, i < m1 → w5.cell? ⟨bo1, i * 6, none⟩ = some (.int .i64 ((l1 : Int) + (i : Int)))) ∧ (∀ i, i < m2 → w5.cell? ⟨bo2, i * 6, none⟩ = some (.int .i64 ((l2 : Int) + (i : Int)))) ∧ (∀ i, i < m3 → w5.cell? ⟨bo3, i * 6, none⟩ = some (.int .i64 ((l1 : Int) + (i : Int))))) :=
            ⟨fun i hi => (x3.cell u2').trans (U4'.out i hi), fun i hi => (x3.cell v2).trans (V4.out i hi), x4⟩
          have HB5 : Hid (Below w.heap.size w w5) := HB4.out.trans (x3.mono HB4.out.size)
          clear Hse4 Hpl4 HB4 x1 x2 x3 x4 U4' u2' V4 v2 g0 g1 g2 g3 HX HT hz
          have n1 : ((m1 : Int) == 0) = false := by rw [beq_eq_false_iff_ne]; omega
          have n2 : ((m2 : Int) == 0) = false := by rw [beq_eq_false_iff_ne]; omega
          have n3 : decide (st2 < st1) = false := by simp; omega
          have n4 : decide (en2 < en1) = false := by simp; omega
          have n5 : decide (en1 - st2 < 0) = false := by simp; omega
          have n6 : decide (65552 < en1 - st2) = false := by simp; omega
          have e1 : w5.cell? ⟨bo1, (m1 - 1) * 6, none⟩ = some (.int .i64 ((l1 : Int) + (m1 : Int) - 1)) := (KK.out.1 (m1 - 1) (by omega)).trans (by congr 2; omega)
          have e2 : w5.cell? ⟨bo2, 0, none⟩ = some (.int .i64 (l2 : Int)) := (show w5.cell? ⟨bo2, 0 * 6, none⟩ = _ from KK.out.2.1 0 (by omega)).trans (by simp)
          have b1 : (0 : Int) ≤ (m1 : Int) - 1 := by omega
          have b2 : (m1 : Int) - 1 < (m1 : Int) := by omega
          have b3 : (0 : Int) < (m2 : Int) := by omega
          rcases y5 with ⟨y5, y8⟩ | ⟨y5, y8⟩
          · have s0 : ((l1 : Int) + (m1 : Int) - 1 == (l2 : Int)) = true := by rw [beq_iff_eq]; omega
            have n7 : ((m3 : Int) != (m1 : Int) + (m2 : Int) - 1) = false := by rw [bne_eq_false_iff_eq]; omega
            have y5a : l1 + m1 ≤ l2 + 1 := by omega
            have y5b : l2 + 1 ≤ l1 + m1 := by omega
            have y8a : m3 + 1 ≤ m1 + m2 := by omega
            have y8b : m1 + m2 ≤ m3 + 1 := by omega
            clear y5 y8
            go_wp2
            go_quiet (fail)
            go_wp2
            have KK' : Hid ((∀ i, i < m1 → (w5.drewN nq).cell? ⟨bo1, i * 6, none⟩ = some (.int .i64 ((l1 : Int) + (i : Int)))) ∧ (∀ i, i < m2 → (w5.drewN nq).cell? ⟨bo2, i * 6, none⟩ = some (.int .i64 ((l2 : Int) + (i : Int)))) ∧ (∀ i, i < m3 → (w5.drewN nq).cell? ⟨bo3, i * 6, none⟩ = some (.int .i64 ((l1 : Int) + (i : Int))))) := KK.out
            have HB5' : Hid (Below w.heap.size w (w5.drewN nq)) := below_drewN HB5.out nq
            clear KK HB5 e1 e2
            generalize w5.drewN nq = W6 at KK' HB5' ⊢
            go_loopw [25] (fun i wr => ∃ x : Nat, x ≤ m1 ∧ i = .int .i64 x ∧ ∃ q, wr = W6.drewN q) (fun i _ => m1 - (intOf i).toNat)
            case atStart => exact ⟨0, Nat.zero_le _, rfl, 0, rfl⟩
            case round =>
              obtain ⟨x, hx, rfl, q, rfl⟩ := hrel
              by_cases hx2 : x < m1
              · have e1 : W6.cell? ⟨bo1, x * 6, none⟩ = some (.int .i64 ((l1 : Int) + (x : Int))) := KK'.out.1 x hx2
                have e2 : W6.cell? ⟨bo3, x * 6, none⟩ = some (.int .i64 ((l1 : Int) + (x : Int))) := KK'.out.2.2 x (by omega)
                have b1 : (x : Int) < (m1 : Int) := by omega
                have b2 : (x : Int) < (m3 : Int) := by omega
                have b3 : (0 : Int) ≤ (x : Int) := by omega
                go_wp2
                go_quiet (fail)
                go_wp2
                go_roundw
                case rel => exact ⟨x + 1, by omega, by go_num, _, rfl⟩
                case measure => simp [intOf]; omega
              · have hx3 : m1 ≤ x := by omega
                go_wp2
                go_loopw [26] (fun i wr => ∃ y : Nat, 1 ≤ y ∧ y ≤ m2 ∧ i = .int .i64 y ∧ ∃ q, wr = W6.drewN q) (fun i _ => m2 - (intOf i).toNat)
                case atStart => exact ⟨1, by omega, by omega, rfl, q, rfl⟩
                case round =>
                  obtain ⟨y, hy0, hy, rfl, q', rfl⟩ := hrel
                  by_cases hy2 : y < m2
                  · have e1 : W6.cell? ⟨bo2, y * 6, none⟩ = some (.int .i64 ((l2 : Int) + (y : Int))) := KK'.out.2.1 y hy2
                    have e2 : W6.cell? ⟨bo3, (m1 + y - 1) * 6, none⟩ = some (.int .i64 ((l2 : Int) + (y : Int))) := (KK'.out.2.2 (m1 + y - 1) (by omega)).trans (by congr 2; omega)
                    have b1 : (y : Int) < (m2 : Int) := by omega
                    have b2 : (m1 : Int) + (y : Int) - 1 < (m3 : Int) := by omega
                    have b3 : (0 : Int) ≤ (y : Int) := by omega
                    have b4 : (0 : Int) ≤ (m1 : Int) + (y : Int) - 1 := by omega
                    go_wp2
                    go_quiet (fail)
                    go_wp2
                    go_roundw
                    case rel => exact ⟨y + 1, by omega, by omega, by go_num, _, rfl⟩
                    case measure => simp [intOf]; omega
                  · have hy3 : m2 ≤ y := by omega
                    go_wp2
                    go_ret
                    exact ⟨rfl, below_drewN HB5'.out _⟩
          · have s0 : ((l1 : Int) + (m1 : Int) - 1 == (l2 : Int)) = false := by rw [beq_eq_false_iff_ne]; omega
            have n7 : ((m3 : Int) != (m1 : Int) + (m2 : Int)) = false := by rw [bne_eq_false_iff_eq]; omega
            have y5a : l1 + m1 ≤ l2 := by omega
            have y5b : l2 ≤ l1 + m1 := by omega
            have y8a : m3 ≤ m1 + m2 := by omega
            have y8b : m1 + m2 ≤ m3 := by omega
            clear y5 y8
            go_wp2
            go_quiet (fail)
            go_wp2
            have KK' : Hid ((∀ i, i < m1 → (w5.drewN nq).cell? ⟨bo1, i * 6, none⟩ = some (.int .i64 ((l1 : Int) + (i : Int)))) ∧ (∀ i, i < m2 → (w5.drewN nq).cell? ⟨bo2, i * 6, none⟩ = some (.int .i64 ((l2 : Int) + (i : Int)))) ∧ (∀ i, i < m3 → (w5.drewN nq).cell? ⟨bo3, i * 6, none⟩ = some (.int .i64 ((l1 : Int) + (i : Int))))) := KK.out
            have HB5' : Hid (Below w.heap.size w (w5.drewN nq)) := below_drewN HB5.out nq
            clear KK HB5 e1 e2
            generalize w5.drewN nq = W6 at KK' HB5' ⊢
            go_loopw [25] (fun i wr => ∃ x : Nat, x ≤ m1 ∧ i = .int .i64 x ∧ ∃ q, wr = W6.drewN q) (fun i _ => m1 - (intOf i).toNat)
            case atStart => exact ⟨0, Nat.zero_le _, rfl, 0, rfl⟩
            case round =>
              obtain ⟨x, hx, rfl, q, rfl⟩ := hrel
              by_cases hx2 : x < m1
              · have e1 : W6.cell? ⟨bo1, x * 6, none⟩ = some (.int .i64 ((l1 : Int) + (x : Int))) := KK'.out.1 x hx2
                have e2 : W6.cell? ⟨bo3, x * 6, none⟩ = some (.int .i64 ((l1 : Int) + (x : Int))) := KK'.out.2.2 x (by omega)
                have b1 : (x : Int) < (m1 : Int) := by omega
                have b2 : (x : Int) < (m3 : Int) := by omega
                have b3 : (0 : Int) ≤ (x : Int) := by omega
                go_wp2
                go_quiet (fail)
                go_wp2
                go_roundw
                case rel => exact ⟨x + 1, by omega, by go_num, _, rfl⟩
                case measure => simp [intOf]; omega
              · have hx3 : m1 ≤ x := by omega
                go_wp2
                go_loopw [26] (fun i wr => ∃ y : Nat, 0 ≤ y ∧ y ≤ m2 ∧ i = .int .i64 y ∧ ∃ q, wr = W6.drewN q) (fun i _ => m2 - (intOf i).toNat)
                case atStart => exact ⟨0, by omega, by omega, rfl, q, rfl⟩
                case round =>
                  obtain ⟨y, hy0, hy, rfl, q', rfl⟩ := hrel
                  by_cases hy2 : y < m2
                  · have e1 : W6.cell? ⟨bo2, y * 6, none⟩ = some (.int .i64 ((l2 : Int) + (y : Int))) := KK'.out.2.1 y hy2
                    have e2 : W6.cell? ⟨bo3, (m1 + y) * 6, none⟩ = some (.int .i64 ((l2 : Int) + (y : Int))) := (KK'.out.2.2 (m1 + y) (by omega)).trans (by congr 2; omega)
                    have b1 : (y : Int) < (m2 : Int) := by omega
                    have b2 : (m1 : Int) + (y : Int) < (m3 : Int) := by omega
                    have b3 : (0 : Int) ≤ (y : Int) := by omega
                    have b4 : (0 : Int) ≤ (m1 : Int) + (y : Int) := by omega
                    go_wp2
                    go_quiet (fail)
                    go_wp2
                    go_roundw
                    case rel => exact ⟨y + 1, by omega, by omega, by go_num, _, rfl⟩
                    case measure => simp [intOf]; omega
                  · have hy3 : m2 ≤ y := by omega
                    go_wp2
                    go_ret
                    exact ⟨rfl, below_drewN HB5'.out _⟩
end Go.Proofs.Qxb6601507aMods
