import Derived.Test.Qxb6601911aModsProg
import Derived.WalkKit
import Derived.WalkSpells
import Derived.WalkLawsBesides
import Derived.Deep.QuietTactic
import Derived.BigQuiet
import Derived.RegionTactic
import Derived.Deep.OwnRows
import Derived.Deep.AppendLies
import Derived.Laws.AppendOwnNone
import Derived.ArgAppend
namespace Go.Proofs.Qxb6601911aMods
open Go.RowKit

theorem hd {p : Prop} (h : p) : Hid p := h
theorem bel_alloc {a w : World} (h : Below a.heap.size a w) (o : Obj) : Below a.heap.size a (w.alloc o) := h.alloc h.size o
theorem Trym.info5 : (Trym.prog.info? 5).map (fun i => (i.zero, i.size, i.bytes)) = some (some (.int .u8 0), 1, 1) := by kernel_rfl

theorem zzBytes8_ok (a : Option Addr) (len cap : Nat) (a' : Option Addr) (len' cap' : Nat) (w : World) (h : len + len' ≤ 1048576) :
    Calls Trym.prog 8 #[.slice a len cap, .slice a' len' cap'] w fun e w' => e = .returned (.bool true) ∧ w = w' := by
  go_enter Trym.func8, Trym.ntmps8
  go_wp2
  go_ret
  exact ⟨rfl, rfl⟩
theorem zzBytes8_no (a : Option Addr) (len cap : Nat) (a' : Option Addr) (len' cap' : Nat) (w : World) (h : 1048576 < len + len') (h1 : len ≤ 9223372036854775807) (h2 : len' ≤ 9223372036854775807) :
    Calls Trym.prog 8 #[.slice a len cap, .slice a' len' cap'] w fun e w' => e = .returned (.bool false) ∧ w = w' := by
  by_cases c1 : 1048576 < len
  · go_enter Trym.func8, Trym.ntmps8
    go_wp2
    go_ret
    exact ⟨rfl, rfl⟩
  by_cases c2 : 1048576 < len'
  · go_enter Trym.func8, Trym.ntmps8
    go_wp2
    go_ret
    exact ⟨rfl, rfl⟩
  go_enter Trym.func8, Trym.ntmps8
  go_wp2
  go_ret
  exact ⟨rfl, rfl⟩

/-- a slice of bytes that the call itself made: nil, or the row of block b -/
def Made (w : World) (b : Nat) (ao : Option Addr) (n : Nat) (z : Nat → Int) : Prop :=
  (ao = none ∧ n = 0) ∨ (ao = some ⟨b, 0, none⟩ ∧ b < w.heap.size ∧ ∀ i, i < n → w.cell? ⟨b, i, none⟩ = some (.int .u8 (z i)))
theorem Made.below {w w' : World} {B b n : Nat} {ao : Option Addr} {z : Nat → Int} (h : Made w b ao n z) (hb : Below B w w') (hB : b < B) : Made w' b ao n z := by
  rcases h with h | ⟨h1, h2, h3⟩
  · exact .inl h
  · exact .inr ⟨h1, Nat.lt_of_lt_of_le h2 hb.size, fun i hi => (hb.cell hB).trans (h3 i hi)⟩

theorem clone9_nil (w : World) : Calls Trym.prog 9 #[.slice none 0 0] w fun e w' => e = .returned (.slice none 0 0) ∧ w = w' := by
  have hn := fun (w : World) => Lib.run_eql_slice_nil (P := Trym.prog) w 22 5 none 0 0 0 0 Trym.underlying22
  go_enter Trym.func9, Trym.ntmps9
  go_wp2
  go_ret
  exact ⟨rfl, rfl⟩
set_option maxHeartbeats 400000 in
theorem clone9_some (x : Addr) (len cap : Nat) (z : Nat → Int) (w : World) (hlen : len ≤ 1048576) (hc : ∀ i, i < len → ∃ b off, x = ⟨b, off, none⟩ ∧ w.cell? ⟨b, off + i, none⟩ = some (.int .u8 (z i))) :
    Calls Trym.prog 9 #[.slice (some x) len cap] w fun e w' => e = .returned (.slice (some ⟨w.heap.size, 0, none⟩) len len) ∧ w'.rowIs w.heap.size 5 len (fun j => .int .u8 (z j)) ∧ Below w.heap.size w w' := by
  have hmk := run_make_row' (P := Trym.prog) 22 5 (.int .u8 0) 1 Trym.underlying22 Trym.info5 rfl .i64 .i64 len (by omega) (by omega)
  have hn := fun (w : World) => Lib.run_eql_slice_nil (P := Trym.prog) w 22 5 (some x) len cap 0 0 Trym.underlying22
  have HC := hd hc
  clear hc
  go_enter Trym.func9, Trym.ntmps9
  go_wp2
  go_loopw [4] (fun i wr => ∃ k : Nat, k ≤ len ∧ i = .int .i64 k ∧ wr.rowIs w.heap.size 5 len (fun j => if j < k then .int .u8 (z j) else .int .u8 0) ∧ Below w.heap.size w wr) (fun i _ => len - (intOf i).toNat)
  case atStart => exact ⟨0, Nat.zero_le _, rfl, (World.rowIs_made _ _ _ _).congr (by intro i _; simp), (Below.refl _ _).alloc (Nat.le_refl _) _⟩
  case round =>
    obtain ⟨k, hk, rfl, hrow, hbel⟩ := hrel
    by_cases hlt : k < len
    · obtain ⟨b, off, rfl, hck⟩ := HC.out k hlt
      have s1 : wr.cell? ⟨b, off + k, none⟩ = some (.int .u8 (z k)) := (hbel.cell (World.block_lt_of_cell? w _ hck)).trans hck
      have s2 := hrow.cell hlt
      have s3 := hrow.frozen k
      simp at s2
      have hrow2 := hd ((hrow.set k (.int .u8 (z k))).congr (g := fun j => if j < k + 1 then .int .u8 (z j) else .int .u8 0) (by
        intro i _; by_cases e : i = k
        · subst e; simp
        · by_cases e2 : i < k <;> simp [e, e2] <;> omega))
      have hbel2 := hd (hbel.setCell (p := ⟨w.heap.size, k, none⟩) (Nat.le_refl _) (.int .u8 (z k)))
      clear hrow hbel hmk hn hck HC
      go_wp2
      go_roundw
      case rel => exact ⟨k + 1, by omega, by go_num, hrow2.out, hbel2.out⟩
      case measure => simp [intOf]; omega
    · have e : k = len := by omega
      subst e
      clear hmk hn
      go_wp2
      go_ret
      exact ⟨rfl, hrow.congr (by intro i hi; simp [hi]), hbel⟩
end Go.Proofs.Qxb6601911aMods
