import Derived.Test.Qxb6601911aModsEnc2
namespace Go.Proofs.Qxb6601911aMods
open Go.RowKit Nm

/-- the encoder lies in block b: its table log, its shares -/
def EncAt (w : World) (b : Nat) (L : Int) (g : Nat → Int) : Prop := ∃ f, w.rowIs b 50 674 f ∧ f 0 = .int .u64 L ∧ ∀ i, i < 53 → f (1 + i) = .int .i32 (g i)
theorem EncAt.congr {w : World} {b : Nat} {L : Int} {g g' : Nat → Int} (h : EncAt w b L g) (e : ∀ i, i < 53 → g i = g' i) : EncAt w b L g' := by
  obtain ⟨f, h1, h2, h3⟩ := h
  exact ⟨f, h1, h2, fun i hi => by rw [h3 i hi, e i hi]⟩
theorem EncAt.set {w : World} {b : Nat} {L : Int} {g : Nat → Int} (h : EncAt w b L g) (k : Nat) (v : Int) : EncAt (w.setCell ⟨b, 1 + k, none⟩ (.int .i32 v)) b L (upd g k v) := by
  obtain ⟨f, h1, h2, h3⟩ := h
  refine ⟨_, h1.set (1 + k) (.int .i32 v), ?_, fun i hi => ?_⟩
  · show (if 0 = 1 + k then _ else f 0) = _
    rw [if_neg (by omega), h2]
  · show (if 1 + i = 1 + k then _ else f (1 + i)) = _
    by_cases e : i = k
    · subst e; rw [if_pos rfl, upd_same]
    · rw [if_neg (by omega), upd_other _ _ e, h3 i hi]
theorem EncAt.drewN {w : World} {b : Nat} {L : Int} {g : Nat → Int} (h : EncAt w b L g) (q : Nat) : EncAt (w.drewN q) b L g := h
theorem EncAt.lt {w : World} {b : Nat} {L : Int} {g : Nat → Int} (h : EncAt w b L g) : b < w.heap.size := by
  obtain ⟨f, h1, _⟩ := h
  exact h1.lt
theorem EncAt.cell {w : World} {b : Nat} {L : Int} {g : Nat → Int} (h : EncAt w b L g) (i : Nat) (hi : i < 53) : w.cell? ⟨b, 1 + i, none⟩ = some (.int .i32 (g i)) ∧ w.frozen? ⟨b, 1 + i, none⟩ = false := by
  obtain ⟨f, h1, _, h3⟩ := h
  exact ⟨by rw [h1.cell (by omega), h3 i hi], h1.frozen _⟩
theorem EncAt.head {w : World} {b : Nat} {L : Int} {g : Nat → Int} (h : EncAt w b L g) : w.cell? ⟨b, 0, none⟩ = some (.int .u64 L) := by
  obtain ⟨f, h1, h2, _⟩ := h
  rw [h1.cell (by omega), h2]
theorem EncAt.below {w w' : World} {B b : Nat} {L : Int} {g : Nat → Int} (h : EncAt w b L g) (hb : Below B w w') (hB : b < B) : EncAt w' b L g := by
  obtain ⟨f, h1, h2, h3⟩ := h
  exact ⟨f, h1.of_block (hb.block b hB), h2, h3⟩
theorem enc_at (w : World) (L : Int) (a : Nat → Int) : EncAt ((w.alloc (.cells (arr a) 27)).alloc (.cells (encOf L a) 50)) (w.heap.size + 1) L a := by
  have hs : (encOf L a).size = 674 := by simp [encOf, tail_size, arr_size]
  have h := World.rowIs_alloc (w.alloc (.cells (arr a) 27)) (encOf L a) 50 (fun i => (encOf L a).getD i undef) (fun i hi => by simp [hi])
  rw [World.size_alloc, hs] at h
  refine ⟨_, h, rfl, fun i hi => ?_⟩
  have e : (encOf L a)[1 + i]? = some (.int .i32 (a i)) := by
    unfold encOf
    rw [List.getElem?_toArray, show 1 + i = i + 1 by omega, List.getElem?_cons_succ, List.getElem?_append_left (by simp [arr_size]; omega), Array.getElem?_toList]
    exact arr_at a i hi
  show (encOf L a).getD (1 + i) undef = _
  rw [Array.getD_eq_getD_getElem?, e]
  rfl

/-- the shares with the old entries behind them -/
def mix (n : Nat) (f a : Nat → Int) : Nat → Int := fun i => if i < n then f i else a i
theorem mix_lt {n : Nat} {f a : Nat → Int} {i : Nat} (h : i < n) : mix n f a i = f i := by simp [mix, h]

set_option maxHeartbeats 2000000 in
set_option maxRecDepth 100000 in
theorem norm24 (b bh n : Nat) (L tot : Int) (h a : Nat → Int) (w : World) (hE : EncAt w b L a) (hbh : bh < b) (hc : ∀ i, i < n → w.cell? ⟨bh, i, none⟩ = some (.int .u32 (h i)))
    (h0 : 0 ≤ L) (h1 : L ≤ 30) (hn : n ≤ 53) (D : Dom (2 ^ L.toNat) tot h n) (hh : ∀ i, i < n → h i ≤ 4294967295) (ht : tot ≤ 9223372036854775807) :
    Calls Trym.prog 24 #[.pointer (some ⟨b, 0, none⟩), .slice (some ⟨bh, 0, none⟩) n n, .int .i64 tot] w fun e w' => e = .returned (.tuple #[]) ∧ EncAt w' b L (mix n (normOf (2 ^ L.toNat) tot h n) a) ∧ Below b w w' := by
  have pb := pow_bd (L := L) (by omega)
  obtain ⟨Z, hZ⟩ : ∃ Z : Int, Z = 2 ^ L.toNat := ⟨_, rfl⟩
  have hw : wrap32 (2 ^ L.toNat) = Z := by rw [← hZ]; exact IntWalk.wrap32_in Z ⟨by omega, by omega⟩
  rw [← hZ] at pb D ⊢
  have hhead := hE.head
  have HE := hd hE
  have HC := hd hc
  have HD := hd D
  have HH := hd hh
  have tpos := D.pos
  clear hZ hE hc D hh
  go_enter Trym.func24, Trym.ntmps24
  go_wp2
  rw [hw]
  clear hw hhead
  go_loopw [7, 20] (fun s i wr => ∃ k : Nat, k ≤ n ∧ i = .int .i64 k ∧ s = .int .i32 (psum (share Z tot h) k) ∧ EncAt wr b L (mix k (share Z tot h) a) ∧ Below b w wr) (fun _ i _ => n - (intOf i).toNat)
  case atStart => exact ⟨0, Nat.zero_le _, rfl, rfl, HE.out.congr (fun i _ => by simp [mix]), Below.refl _ _⟩
  case round =>
    obtain ⟨k, hk, rfl, rfl, hE, hbel⟩ := hrel
    have sb := HD.out.sum_le k (by omega)
    by_cases hlt : k < n
    · have sb1 := HD.out.sum_le (k + 1) (by omega)
      rw [psum_succ] at sb1
      have hs := HD.out.share k hlt
      have g1 : wr.cell? ⟨bh, k, none⟩ = some (.int .u32 (h k)) := (hbel.cell hbh).trans (HC.out k hlt)
      have g2 := (hE.cell k (by omega)).1
      have g3 := (hE.cell k (by omega)).2
      have hk0 := HD.out.nonneg k hlt
      have hk1 := HH.out k hlt
      have HN := hd (hE.set k (share Z tot h k))
      have HB := hd (hbel.setCell (p := ⟨b, 1 + k, none⟩) (Nat.le_refl _) (.int .i32 (share Z tot h k)))
      have stepE : ∀ i, i < 53 → upd (mix k (share Z tot h) a) k (share Z tot h k) i = mix (k + 1) (share Z tot h) a i := by
        intro i _
        by_cases e : i = k
        · subst e; rw [upd_same, mix_lt (by omega)]
        · rw [upd_other _ _ e]; unfold mix; by_cases e2 : i < k
          · rw [if_pos e2, if_pos (by omega)]
          · rw [if_neg e2, if_neg (by omega)]
      have HS := hd stepE
      clear hE hbel stepE
      by_cases z : h k = 0
      · have hq : share Z tot h k = 0 := hs.2.2.1 z
        rw [hq] at HN HB sb1
        have z' : decide (0 < h k) = false := by simp; omega
        have Hq := hd hq
        clear hs z hq
        go_wp2
        go_roundw
        case rel => exact ⟨k + 1, by omega, by go_num, by rw [psum_succ, Hq.out]; simp, HN.out.congr (fun i hi => by have := HS.out i hi; rw [Hq.out] at this; exact this), HB.out⟩
        case measure => simp [intOf]; omega
      · have z' : decide (0 < h k) = true := by simp; omega
        have m0 : 0 ≤ h k * Z := Int.mul_nonneg hk0 (by omega)
        have m1 : h k * Z ≤ 4294967295 * 1073741824 := Int.mul_le_mul hk1 pb.2 (by omega) (by omega)
        have hq : share Z tot h k = max ((h k * Z + tot / 2) / tot) 1 := by unfold share qOf; rw [if_neg z]
        have q0 : 0 ≤ (h k * Z + tot / 2) / tot := Int.ediv_nonneg (by omega) (by omega)
        have q1 : (h k * Z + tot / 2) / tot ≤ Z := by have := hs.2.1; omega
        by_cases c : (h k * Z + tot / 2) / tot < 1
        · have hq1 : share Z tot h k = 1 := by omega
          rw [hq1] at HN HB sb1
          have Hq := hd hq1
          clear hs z hq hq1
          go_wp2
          go_roundw
          case rel => exact ⟨k + 1, by omega, by go_num, by rw [psum_succ, Hq.out], HN.out.congr (fun i hi => by have := HS.out i hi; rw [Hq.out] at this; exact this), HB.out⟩
          case measure => simp [intOf]; omega
        · have hq1 : share Z tot h k = (h k * Z + tot / 2) / tot := by omega
          rw [hq1] at HN HB sb1
          have Hq := hd hq1
          clear hs z hq hq1
          go_wp2
          go_roundw
          case rel => exact ⟨k + 1, by omega, by go_num, by rw [psum_succ, Hq.out], HN.out.congr (fun i hi => by have := HS.out i hi; rw [Hq.out] at this; exact this), HB.out⟩
          case measure => simp [intOf]; omega
    · have e : k = n := by omega
      subst e
      obtain ⟨S, hS⟩ : ∃ S, S = psum (share Z tot h) k := ⟨_, rfl⟩
      rw [← hS] at sb ⊢
      have HS := hd hS
      have hnp := HD.out.npos
      have HE1 := hd hE
      have HB1 := hd hbel
      clear hS hE hbel HE HC HH
      go_wp2
      go_loopw [7] (fun s wr => ∃ x : Nat, s = .int .i32 (S - x) ∧ (x = 0 ∨ Z ≤ S - x) ∧ EncAt wr b L (mix k (dec k (share Z tot h) x) a) ∧ Below b w wr) (fun s _ => (intOf s - Z).toNat)
      case atStart => exact ⟨0, by simp, .inl rfl, HE1.out, HB1.out⟩
      case round =>
        obtain ⟨x, rfl, hx, hE, hbel⟩ := hrel
        obtain ⟨W, rfl⟩ : ∃ W, W = wr := ⟨_, rfl⟩
        have hG : Nm.Good Z h k (dec k (share Z tot h) x) := by
          rcases hx with rfl | hx
          · exact HD.out.good
          · exact (Nm.Good.decs HD.out HD.out.good x (by rw [← HS.out]; omega)).1
        have xb : (x : Int) ≤ 53 := by rcases hx with rfl | hx <;> omega
        by_cases eq : S - x = Z
        · have eq' : (S - (x : Int) != Z) = false := by rw [bne_eq_false_iff_eq]; exact eq
          have HX : Hid (normOf Z tot h k = dec k (share Z tot h) x) := by
            show _ = _
            unfold normOf
            rw [← HS.out, if_neg (by omega), show (S - Z).toNat = x by omega]
          have HEE := hd hE
          have HBB := hd hbel
          clear eq hE hbel hG HE1 HB1 hx
          go_wp2
          go_end0
          exact ⟨rfl, by rw [HX.out]; exact HEE.out, HBB.out⟩
        have eq' : (S - (x : Int) != Z) = true := by rw [bne_iff_ne]; exact eq
        obtain ⟨f, hf⟩ : ∃ f, f = dec k (share Z tot h) x := ⟨_, rfl⟩
        rw [← hf] at hE hG
        have HF := hd hf
        have HG := hd hG
        have HEE := hd hE
        have HBB := hd hbel
        have HX := hd hx
        clear hf hG hE hbel hx HE1 HB1
        go_wp2
        go_loopw [11, 54] (fun bg i wr => ∃ j : Nat, j ≤ k ∧ i = .int .i64 j ∧ bg = .int .i64 (big f j : Nat) ∧ ∃ q, wr = W.drewN q) (fun _ i _ => k - (intOf i).toNat)
        case atStart => exact ⟨0, Nat.zero_le _, rfl, rfl, 0, rfl⟩
        case round =>
          obtain ⟨j, hj, rfl, rfl, q, rfl⟩ := hrel
          have bl : big f j < k := by
            rcases Nat.eq_zero_or_pos j with e | e
            · subst e; exact hnp
            · have := big_lt f j e; omega
          by_cases hlt2 : j < k
          · have c1 := (HEE.out.cell j (by omega)).1
            have c2 := (HEE.out.cell (big f j) (by omega)).1
            rw [mix_lt hlt2] at c1
            rw [mix_lt bl] at c2
            have i1 : (0 : Int) ≤ (j : Int) := by omega
            have i2 : (j : Int) < 53 := by omega
            have i3 : (0 : Int) ≤ (big f j : Int) := by omega
            have i4 : (big f j : Int) < 53 := by omega
            by_cases cm : f (big f j) < f j
            · have HBG : Hid (big f (j + 1) = j) := by show _ = _; rw [big_succ, if_pos cm]
              go_wp2
              go_quiet (fail)
              go_wp2
              go_roundw
              case rel => exact ⟨j + 1, by omega, by go_num, by rw [HBG.out], _, rfl⟩
              case measure => simp [intOf]; omega
            · have HBG : Hid (big f (j + 1) = big f j) := by show _ = _; rw [big_succ, if_neg cm]
              go_wp2
              go_quiet (fail)
              go_wp2
              go_roundw
              case rel => exact ⟨j + 1, by omega, by go_num, by rw [HBG.out], _, rfl⟩
              case measure => simp [intOf]; omega
          · have e : j = k := by omega
            subst e
            obtain ⟨m, hm⟩ : ∃ m, m = big f j := ⟨_, rfl⟩
            rw [← hm] at bl ⊢
            have HM := hd hm
            have HE2 := hd (HEE.out.drewN q)
            have HB2 := hd (below_drewN HBB.out q)
            clear hm HEE HBB
            generalize W.drewN q = W2 at HE2 HB2 ⊢
            have c1 := (HE2.out.cell m (by omega)).1
            have c2 := (HE2.out.cell m (by omega)).2
            rw [mix_lt bl] at c1
            have i1 : (0 : Int) ≤ (m : Int) := by omega
            have i2 : (m : Int) < 53 := by omega
            have fb0 := HG.out.nonneg m bl
            have fb1 := HG.out.le m bl
            by_cases cs : S - x < Z
            · have cs' : decide (S - (x : Int) < Z) = true := by simp; omega
              have x0 : x = 0 := by rcases HX.out with hx | hx; exact hx; omega
              have HX0 := hd x0
              have xz : (x : Int) ≤ 0 := by omega
              have fs : f m ≤ S := by
                have hl := le_psum f j (fun i hi => HG.out.nonneg i hi) m bl
                have e : f = share Z tot h := by rw [HF.out, x0]; rfl
                rw [e, ← HS.out] at hl
                rw [e]; exact hl
              have HFN : Hid (∀ i, i < 53 → upd (mix j f a) m (f m + (Z - (S - x))) i = mix j (normOf Z tot h j) a i) := by
                intro i _
                have hn1 : normOf Z tot h j = upd f m (f m + (Z - S)) := by
                  unfold normOf
                  rw [← HS.out, if_pos (by omega)]
                  unfold raise
                  rw [← HS.out]
                  have : f = share Z tot h := by rw [HF.out, x0]; rfl
                  rw [← this, ← HM.out]
                rw [hn1, show S - (x : Int) = S by omega]
                by_cases e : i = m
                · subst e; rw [upd_same, mix_lt bl, upd_same]
                · rw [upd_other _ _ e]; unfold mix
                  by_cases e2 : i < j
                  · rw [if_pos e2, if_pos e2, upd_other _ _ e]
                  · rw [if_neg e2, if_neg e2]
              have HEF := hd ((HE2.out.set m (f m + (Z - (S - x)))).congr HFN.out)
              have HBF := hd (HB2.out.setCell (p := ⟨b, 1 + m, none⟩) (Nat.le_refl _) (.int .i32 (f m + (Z - (S - x)))))
              clear x0 HFN HX0
              go_wp2
              go_region
              go_wp2
              exact bodyPost_ret (results_none rfl _ _ _) rfl ⟨rfl, HEF.out, HBF.out.drew⟩
            · have cs' : decide (S - (x : Int) < Z) = false := by simp; omega
              have HFN : Hid (∀ i, i < 53 → upd (mix j f a) m (f m - 1) i = mix j (dec j (share Z tot h) (x + 1)) a i) := by
                intro i _
                have hn1 : dec j (share Z tot h) (x + 1) = upd f m (f m - 1) := by
                  rw [dec_succ, ← HF.out]; unfold stepDec; rw [← HM.out]
                rw [hn1]
                by_cases e : i = m
                · subst e; rw [upd_same, mix_lt bl, upd_same]
                · rw [upd_other _ _ e]; unfold mix
                  by_cases e2 : i < j
                  · rw [if_pos e2, if_pos e2, upd_other _ _ e]
                  · rw [if_neg e2, if_neg e2]
              have HEF := hd ((HE2.out.set m (f m - 1)).congr HFN.out)
              have HBF := hd (HB2.out.setCell (p := ⟨b, 1 + m, none⟩) (Nat.le_refl _) (.int .i32 (f m - 1)))
              clear HFN
              go_wp2
              go_region
              go_wp2
              go_roundw
              case rel => exact ⟨x + 1, by go_num, by omega, HEF.out, HBF.out.drew⟩
              case measure => simp [intOf]; omega
end Go.Proofs.Qxb6601911aMods
