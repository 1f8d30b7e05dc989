import Derived.Test.Qxb6601911aModsRaw
namespace Go.Proofs.Qxb6601911aMods
open Go.RowKit

/-- the header's bytes -/
def hdr (n : Nat) : List Value :=
  if n < 32 then [.int .u8 ((n : Int) * 8)] else if n < 4096 then [.int .u8 (((n : Int) * 16 + 4) % 256), .int .u8 ((n : Int) / 16)]
  else [.int .u8 (((n : Int) * 16 + 12) % 256), .int .u8 (((n : Int) * 16 + 12) / 256 % 256), .int .u8 (((n : Int) * 16 + 12) / 65536)]

theorem own_cells {w' : World} {B g cap d H n : Nat} {zd zl : Nat → Int} {h : List Value} (hH : h.length = H)
    (ho : w'.ownsRow B 5 1 (.slice (some ⟨g, 0, none⟩) (d + H + n) cap) (d + H + n) (cellsOf zd d ++ (h ++ cellsOf zl n))) :
    d + (H + n) ≤ cap ∧ g < w'.heap.size ∧ (∀ i, i < d → w'.cell? ⟨g, i, none⟩ = some (.int .u8 (zd i))) ∧ (∀ i, i < H → w'.cell? ⟨g, d + i, none⟩ = h[i]?) ∧ (∀ i, i < n → w'.cell? ⟨g, d + (H + i), none⟩ = some (.int .u8 (zl i))) := by
  have hcap : d + (H + n) ≤ cap ∧ g < w'.heap.size := by
    rcases ho.2 with ⟨h', _⟩ | ⟨g', cap', cur, h', _, hg, hnc, _⟩
    · cases h'
    · simp only [Value.slice.injEq, Option.some.injEq, Addr.mk.injEq, and_true, true_and] at h'
      obtain ⟨rfl, rfl⟩ := h'
      exact ⟨by omega, (Array.getElem?_eq_some_iff.1 hg).1⟩
  have l1 : (cellsOf zd d).length = d := by simp [cellsOf]
  refine ⟨hcap.1, hcap.2, fun i hi => ?_, fun i hi => ?_, fun i hi => ?_⟩
  · rw [ho.cellAt i (by omega), List.getElem?_append_left (by omega)]
    simp [cellsOf, List.getElem?_range hi]
  · rw [ho.cellAt (d + i) (by omega), List.getElem?_append_right (by omega), List.getElem?_append_left (by omega), l1]
    congr 1; omega
  · rw [ho.cellAt (d + (H + i)) (by omega), List.getElem?_append_right (by omega), List.getElem?_append_right (by omega), l1]
    have e : d + (H + i) - d - h.length = i := by omega
    rw [e]
    simp [cellsOf, List.getElem?_range hi]

/-- what ZZAppendRawLiterals hands back -/
def Out10 (w w' : World) (e : Ending) (d H n : Nat) (zd zl : Nat → Int) (h : List Value) : Prop :=
  ∃ g cap, e = .returned (.slice (some ⟨g, 0, none⟩) (d + (H + n)) cap) ∧ d + (H + n) ≤ cap ∧ Below w.heap.size w w' ∧
    (∀ i, i < d → w'.cell? ⟨g, i, none⟩ = some (.int .u8 (zd i))) ∧ (∀ i, i < H → w'.cell? ⟨g, d + i, none⟩ = h[i]?) ∧ (∀ i, i < n → w'.cell? ⟨g, d + (H + i), none⟩ = some (.int .u8 (zl i)))
theorem out10_of {w w' : World} {e : Ending} {d H n : Nat} {zd zl : Nat → Int} {h : List Value} (hH : h.length = H) (ho : RawOut w w.heap.size w' e (d + H + n) (cellsOf zd d ++ (h ++ cellsOf zl n))) : Out10 w w' e d H n zd zl h := by
  obtain ⟨g, cap, rfl, _, hown, hb⟩ := ho
  obtain ⟨a1, _, a3, a4, a5⟩ := own_cells hH hown
  exact ⟨g, cap, by rw [Nat.add_assoc], a1, hb, a3, a4, a5⟩

theorem raw23 (ad al : Option Addr) (d n bd bl : Nat) (zd zl : Nat → Int) (w : World) (h1 : Made w bd ad d zd) (h2 : Made w bl al n zl) (hb : d + n ≤ 1048576) (hn : n < 1048576) :
    Calls Trym.prog 23 #[.slice ad d d, .slice al n n] w fun e w' => Out10 w w' e d (hdr n).length n zd zl (hdr n) := by
  rcases h2 with ⟨rfl, rfl⟩ | h2
  · refine (append23_nil ad d bd zd w h1 (by omega)).mono fun e w' ho => out10_of rfl ?_
    simpa [hdr, cellsOf] using ho
  · obtain ⟨rfl, hlt, hc⟩ := h2
    have h2 : Made w bl (some ⟨bl, 0, none⟩) n zl := .inr ⟨rfl, hlt, hc⟩
    by_cases c1 : n < 32
    · refine (append23_1 ad d bd zd n bl zl w h1 h2 hb (by omega) c1).mono fun e w' ho => out10_of rfl ?_
      have e : hdr n = _ := if_pos c1
      rw [e]; exact ho
    · by_cases c2 : n < 4096
      · refine (append23_2 ad d bd zd n bl zl w h1 h2 hb (by omega) c2).mono fun e w' ho => out10_of rfl ?_
        have e : hdr n = _ := (if_neg c1).trans (if_pos c2)
        rw [e]; exact ho
      · refine (append23_3 ad d bd zd n bl zl w h1 h2 hb (by omega) hn).mono fun e w' ho => out10_of rfl ?_
        have e : hdr n = _ := (if_neg c1).trans (if_neg c2)
        rw [e]; exact ho

set_option maxHeartbeats 400000 in
theorem raw10 (ad al : Option Addr) (d n bd bl : Nat) (zd zl : Nat → Int) (w : World) (h1 : Made w bd ad d zd) (h2 : Made w bl al n zl) (hb : d + n ≤ 1048576) (hn : n < 1048576) :
    Calls Trym.prog 10 #[.slice ad d d, .slice al n n] w fun e w' => Out10 w w' e d (hdr n).length n zd zl (hdr n) := by
  have H1 := hd h1
  have H2 := hd h2
  clear h1 h2
  go_enter Trym.func10, Trym.ntmps10
  go_wp2_with fail
  refine (raw23 ad al d n bd bl zd zl w H1.out H2.out hb hn).mono ?_
  rintro e w' ⟨g, cap, rfl, hh⟩
  have HH := hd hh
  clear hh
  go_wp2
  go_ret
  exact ⟨g, cap, rfl, HH.out⟩
end Go.Proofs.Qxb6601911aMods
