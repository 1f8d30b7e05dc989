import Derived.Test.Qxb6601911aModsRaw2
import Derived.Test.Qxb6601911aModsBits
namespace Go.Proofs.Qxb6601911aMods
open Go.RowKit

/-- a slice of bytes that came in -/
def Came (w : World) (ao : Option Addr) (len cap : Nat) (z : Nat → Int) : Prop :=
  (ao = none ∧ len = 0 ∧ cap = 0) ∨ ∃ x, ao = some x ∧ ∀ i, i < len → ∃ b off, x = ⟨b, off, none⟩ ∧ w.cell? ⟨b, off + i, none⟩ = some (.int .u8 (z i))
theorem Came.below {w w' : World} {ao : Option Addr} {len cap : Nat} {z : Nat → Int} (h : Came w ao len cap z) (hb : Below w.heap.size w w') : Came w' ao len cap z := by
  rcases h with h | ⟨x, hx, hc⟩
  · exact .inl h
  · refine .inr ⟨x, hx, fun i hi => ?_⟩
    obtain ⟨b, off, rfl, hcell⟩ := hc i hi
    exact ⟨b, off, rfl, (hb.cell (World.block_lt_of_cell? w _ hcell)).trans hcell⟩
theorem Made.below' {w w' : World} {b n : Nat} {ao : Option Addr} {z : Nat → Int} (h : Made w b ao n z) (hb : Below w.heap.size w w') : Made w' b ao n z := by
  rcases h with h | ⟨h1, h2, h3⟩
  · exact .inl h
  · exact .inr ⟨h1, Nat.lt_of_lt_of_le h2 hb.size, fun i hi => (hb.cell h2).trans (h3 i hi)⟩
theorem clone9 (ao : Option Addr) (len cap : Nat) (z : Nat → Int) (w : World) (hlen : len ≤ 1048576) (hin : Came w ao len cap z) :
    Calls Trym.prog 9 #[.slice ao len cap] w fun e w' => ∃ ao', e = .returned (.slice ao' len len) ∧ Made w' w.heap.size ao' len z ∧ Below w.heap.size w w' := by
  rcases hin with ⟨rfl, rfl, rfl⟩ | ⟨x, rfl, hc⟩
  · refine (clone9_nil w).mono ?_
    rintro e w' ⟨rfl, rfl⟩
    exact ⟨none, rfl, .inl ⟨rfl, rfl⟩, Below.refl _ _⟩
  · refine (clone9_some x len cap z w hlen hc).mono ?_
    rintro e w' ⟨rfl, hr, hb⟩
    exact ⟨_, rfl, .inr ⟨rfl, hr.lt, fun i hi => hr.cell hi⟩, hb⟩

set_option maxHeartbeats 3000000 in
set_option maxRecDepth 100000 in
theorem raw_main (ao al : Option Addr) (d n c0 c1 : Nat) (zd zl : Nat → Int) (w : World) (h1 : Came w ao d c0 zd) (h2 : Came w al n c1 zl) (hb : d + n ≤ 1048576) (hn : n < 1048576) (hz : ∀ i, i < d → 0 ≤ zd i ∧ zd i < 256) :
    Calls Trym.prog 3 #[.slice ao d c0, .slice al n c1] w fun e w' => e = .returned (.bool true) ∧ Below w.heap.size w w' := by
  have H1 := hd h1
  have H2 := hd h2
  have HZ := hd hz
  have t1 : decide ((1048576 : Int) < (d : Int)) = false := by simp; omega
  have t2 : decide ((1048576 : Int) < (n : Int)) = false := by simp; omega
  have t3 : decide ((1048576 : Int) < (d : Int) + (n : Int)) = false := by simp; omega
  have t4 : decide ((1048576 : Int) ≤ (n : Int)) = false := by simp; omega
  have HBN := hd (And.intro hb hn)
  have hbI : d ≤ 1048576 := by omega
  have hnI : n ≤ 1048575 := by omega
  clear h1 h2 hz hb hn
  go_enter Trym.func3, Trym.ntmps3
  go_wp2_with fail
  refine (zzBytes8_ok _ _ _ _ _ _ _ HBN.out.1).mono ?_
  rintro e w' ⟨rfl, rfl⟩
  go_wp2_with fail
  refine (clone9 ao d c0 zd w (by omega) H1.out).mono ?_
  rintro e w1 ⟨bo, rfl, m1, b1⟩
  have M1 := hd m1
  have B1 := hd b1
  clear m1 b1
  go_wp2_with fail
  refine (clone9 al n c1 zl w1 (by omega) (H2.out.below B1.out)).mono ?_
  rintro e w2 ⟨bl, rfl, m2, b2⟩
  have M2 := hd m2
  have M1' := hd (M1.out.below' b2)
  have B2 : Hid (Below w.heap.size w w2) := B1.out.trans (b2.mono B1.out.size)
  clear m2 b2 M1 B1
  go_wp2_with fail
  refine (raw10 bo bl d n w.heap.size w1.heap.size zd zl w2 M1'.out M2.out HBN.out.1 HBN.out.2).mono ?_
  rintro e w3 ⟨g, cap, rfl, hcap, b3, k1, k2, k3⟩
  have N1 := hd (M1'.out.below' b3)
  have N2 := hd (M2.out.below' b3)
  have B3 : Hid (Below w.heap.size w w3) := B2.out.trans (b3.mono B2.out.size)
  have K := hd (And.intro k1 (And.intro k2 k3))
  clear M1' M2 B2 b3 k1 k2 k3 H1 H2
  have hH : 1 ≤ (hdr n).length ∧ (hdr n).length ≤ 3 := by unfold hdr; split; · simp
                                                          · split <;> simp
  generalize hHH : (hdr n).length = H at hcap K hH ⊢
  have HH := hd hHH
  clear hHH
  go_wp2
  go_loopw [6] (fun i wr => ∃ x : Nat, x ≤ d ∧ i = .int .i64 x ∧ ∃ q, wr = w3.drewN q) (fun i _ => d - (intOf i).toNat)
  case atStart => exact ⟨0, Nat.zero_le _, rfl, 0, rfl⟩
  case round =>
    obtain ⟨x, hx, rfl, q, rfl⟩ := hrel
    by_cases hx2 : x < d
    · have e1 : w3.cell? ⟨g, x, none⟩ = some (.int .u8 (zd x)) := K.out.1 x hx2
      have b1 : (x : Int) < (d : Int) := by omega
      have b2 : (x : Int) < (d : Int) + ((H : Int) + (n : Int)) := by omega
      have b3 : (0 : Int) ≤ (x : Int) := by omega
      rcases N1.out with ⟨_, h0⟩ | ⟨rfl, _, hc⟩
      · omega
      have e2 : w3.cell? ⟨w.heap.size, x, none⟩ = some (.int .u8 (zd x)) := hc x hx2
      clear hc
      go_wp2
      go_quiet (fail)
      go_wp2
      go_roundw
      case rel => exact ⟨x + 1, by omega, by go_num, _, rfl⟩
      case measure => simp [intOf]; omega
    · have hx3 : d ≤ x := by omega
      by_cases c1 : n < 32
      · have hh : hdr n = [.int .u8 ((n : Int) * 8)] := by simp [hdr, c1]
        have hH1 : H = 1 := by have := HH.out; rw [hh] at this; simpa using this.symm
        subst hH1
        have f0 : w3.cell? ⟨g, d, none⟩ = some (.int .u8 ((n : Int) * 8)) := (show w3.cell? ⟨g, d + 0, none⟩ = _ from K.out.2.1 0 (by omega)).trans (by rw [hh]; rfl)
        have v1 : bits .and .i64 ((n : Int) * 8) 3 = 0 := by rw [and3 _ (by omega) (by omega)]; omega
        have v2 : bits .and .i64 ((n : Int) * 8) 4 = 0 := by rw [and4 _ (by omega) (by omega)]; omega
        have v3 : ((n : Int) * 8 / 8 != (n : Int)) = false := by rw [bne_eq_false_iff_eq]; omega
        have s1 : decide ((n : Int) < 32) = true := by simp; omega
        clear hh HH hH
        go_wp2
        go_loopw [13] (fun i wr => ∃ y : Nat, y ≤ n ∧ i = .int .i64 y ∧ ∃ q, wr = w3.drewN q) (fun i _ => n - (intOf i).toNat)
        case atStart => exact ⟨0, Nat.zero_le _, rfl, q, rfl⟩
        case round =>
          obtain ⟨y, hy, rfl, q', rfl⟩ := hrel
          by_cases hy2 : y < n
          · have e1 : w3.cell? ⟨g, d + (1 + y), none⟩ = some (.int .u8 (zl y)) := K.out.2.2 y hy2
            have b1 : (y : Int) < (n : Int) := by omega
            have b2 : (1 : Int) + (y : Int) < (1 : Int) + (n : Int) := by omega
            have b3 : (0 : Int) ≤ (y : Int) := by omega
            have b4 : (0 : Int) ≤ (1 : Int) + (y : Int) := by omega
            rcases N2.out with ⟨_, h0⟩ | ⟨rfl, _, hc⟩
            · omega
            have e2 : w3.cell? ⟨w1.heap.size, y, none⟩ = some (.int .u8 (zl y)) := hc y hy2
            clear hc
            go_wp2
            go_quiet (fail)
            go_wp2
            go_roundw
            case rel => exact ⟨y + 1, by omega, by go_num, _, rfl⟩
            case measure => simp [intOf]; omega
          · have hy3 : n ≤ y := by omega
            go_wp2
            go_ret
            exact ⟨rfl, (show Below w.heap.size w (w3.drewN q') from below_drewN B3.out q')⟩
      · by_cases c2 : n < 4096
        · have hh : hdr n = [.int .u8 (((n : Int) * 16 + 4) % 256), .int .u8 ((n : Int) / 16)] := by simp [hdr, c1, c2]
          have hH1 : H = 2 := by have := HH.out; rw [hh] at this; simpa using this.symm
          subst hH1
          obtain ⟨B, hB⟩ : ∃ B, B = ((n : Int) * 16 + 4) % 256 := ⟨_, rfl⟩
          obtain ⟨R, hR⟩ : ∃ R, R = (n : Int) / 16 := ⟨_, rfl⟩
          rw [← hB, ← hR] at hh
          have f0 : w3.cell? ⟨g, d, none⟩ = some (.int .u8 B) := (show w3.cell? ⟨g, d + 0, none⟩ = _ from K.out.2.1 0 (by omega)).trans (by rw [hh]; rfl)
          have f1 : w3.cell? ⟨g, d + 1, none⟩ = some (.int .u8 R) := (K.out.2.1 1 (by omega)).trans (by rw [hh]; rfl)
          have r1 : 0 ≤ B := by omega
          have r2 : B < 256 := by omega
          have r3 : 0 ≤ R := by omega
          have r4 : R < 256 := by omega
          have v1 : bits .and .i64 B 3 = 0 := by rw [and3 _ r1 r2]; omega
          have v2 : bits .and .i64 B 4 = 4 := by rw [and4 _ r1 r2]; omega
          have v3 : bits .and .i64 (B / 4) 3 = 1 := by rw [and3 _ (by omega) (by omega)]; omega
          have v4 : bits .or .i64 (B / 16) (R * 16) = (n : Int) := by
            have h := or_shl 4 (B / 16) R (by omega) (by simp; omega) r3 (by omega) r4
            refine Eq.trans h ?_
            simp only [Nat.reducePow]
            omega
          have s1 : decide ((n : Int) < 32) = false := by simp; omega
          have s2 : decide ((n : Int) < 4096) = true := by simp; omega
          clear hh HH hH hB hR
          go_wp2
          go_loopw [13] (fun i wr => ∃ y : Nat, y ≤ n ∧ i = .int .i64 y ∧ ∃ q, wr = w3.drewN q) (fun i _ => n - (intOf i).toNat)
          case atStart => exact ⟨0, Nat.zero_le _, rfl, q, rfl⟩
          case round =>
            obtain ⟨y, hy, rfl, q', rfl⟩ := hrel
            by_cases hy2 : y < n
            · have e1 : w3.cell? ⟨g, d + (2 + y), none⟩ = some (.int .u8 (zl y)) := K.out.2.2 y hy2
              have b1 : (y : Int) < (n : Int) := by omega
              have b2 : (2 : Int) + (y : Int) < (2 : Int) + (n : Int) := by omega
              have b3 : (0 : Int) ≤ (y : Int) := by omega
              have b4 : (0 : Int) ≤ (2 : Int) + (y : Int) := by omega
              rcases N2.out with ⟨_, h0⟩ | ⟨rfl, _, hc⟩
              · omega
              have e2 : w3.cell? ⟨w1.heap.size, y, none⟩ = some (.int .u8 (zl y)) := hc y hy2
              clear hc
              go_wp2
              go_quiet (fail)
              go_wp2
              go_roundw
              case rel => exact ⟨y + 1, by omega, by go_num, _, rfl⟩
              case measure => simp [intOf]; omega
            · have hy3 : n ≤ y := by omega
              go_wp2
              go_ret
              exact ⟨rfl, (show Below w.heap.size w (w3.drewN q') from below_drewN B3.out q')⟩
        · have hh : hdr n = [.int .u8 (((n : Int) * 16 + 12) % 256), .int .u8 (((n : Int) * 16 + 12) / 256 % 256), .int .u8 (((n : Int) * 16 + 12) / 65536)] := by simp [hdr, c1, c2]
          have hH1 : H = 3 := by have := HH.out; rw [hh] at this; simpa using this.symm
          subst hH1
          obtain ⟨B, hB⟩ : ∃ B, B = ((n : Int) * 16 + 12) % 256 := ⟨_, rfl⟩
          obtain ⟨R, hR⟩ : ∃ R, R = ((n : Int) * 16 + 12) / 256 % 256 := ⟨_, rfl⟩
          obtain ⟨S, hS⟩ : ∃ S, S = ((n : Int) * 16 + 12) / 65536 := ⟨_, rfl⟩
          rw [← hB, ← hR, ← hS] at hh
          have f0 : w3.cell? ⟨g, d, none⟩ = some (.int .u8 B) := (show w3.cell? ⟨g, d + 0, none⟩ = _ from K.out.2.1 0 (by omega)).trans (by rw [hh]; rfl)
          have f1 : w3.cell? ⟨g, d + 1, none⟩ = some (.int .u8 R) := (K.out.2.1 1 (by omega)).trans (by rw [hh]; rfl)
          have f2 : w3.cell? ⟨g, d + 2, none⟩ = some (.int .u8 S) := (K.out.2.1 2 (by omega)).trans (by rw [hh]; rfl)
          have r1 : 0 ≤ B := by omega
          have r2 : B < 256 := by omega
          have r3 : 0 ≤ R := by omega
          have r4 : R < 256 := by omega
          have r5 : 0 ≤ S := by omega
          have r6 : S < 256 := by omega
          have v1 : bits .and .i64 B 3 = 0 := by rw [and3 _ r1 r2]; omega
          have v2 : bits .and .i64 B 4 = 4 := by rw [and4 _ r1 r2]; omega
          have v3 : bits .and .i64 (B / 4) 3 = 3 := by rw [and3 _ (by omega) (by omega)]; omega
          have v4 : bits .or .i64 (B / 16) (R * 16) = B / 16 + R * 16 := by
            have h := or_shl 4 (B / 16) R (by omega) (by simp; omega) r3 (by omega) r4
            exact h
          have v5 : bits .or .i64 (B / 16 + R * 16) (S * 4096) = (n : Int) := by
            have h := or_shl 12 (B / 16 + R * 16) S (by omega) (by simp; omega) r5 (by omega) r6
            refine Eq.trans h ?_
            simp only [Nat.reducePow]
            omega
          have s1 : decide ((n : Int) < 32) = false := by simp; omega
          have s2 : decide ((n : Int) < 4096) = false := by simp; omega
          clear hh HH hH hB hR hS
          go_wp2
          go_loopw [13] (fun i wr => ∃ y : Nat, y ≤ n ∧ i = .int .i64 y ∧ ∃ q, wr = w3.drewN q) (fun i _ => n - (intOf i).toNat)
          case atStart => exact ⟨0, Nat.zero_le _, rfl, q, rfl⟩
          case round =>
            obtain ⟨y, hy, rfl, q', rfl⟩ := hrel
            by_cases hy2 : y < n
            · have e1 : w3.cell? ⟨g, d + (3 + y), none⟩ = some (.int .u8 (zl y)) := K.out.2.2 y hy2
              have b1 : (y : Int) < (n : Int) := by omega
              have b2 : (3 : Int) + (y : Int) < (3 : Int) + (n : Int) := by omega
              have b3 : (0 : Int) ≤ (y : Int) := by omega
              have b4 : (0 : Int) ≤ (3 : Int) + (y : Int) := by omega
              rcases N2.out with ⟨_, h0⟩ | ⟨rfl, _, hc⟩
              · omega
              have e2 : w3.cell? ⟨w1.heap.size, y, none⟩ = some (.int .u8 (zl y)) := hc y hy2
              clear hc
              go_wp2
              go_quiet (fail)
              go_wp2
              go_roundw
              case rel => exact ⟨y + 1, by omega, by go_num, _, rfl⟩
              case measure => simp [intOf]; omega
            · have hy3 : n ≤ y := by omega
              go_wp2
              go_ret
              exact ⟨rfl, (show Below w.heap.size w (w3.drewN q') from below_drewN B3.out q')⟩
end Go.Proofs.Qxb6601911aMods
