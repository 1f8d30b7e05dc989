import Derived.Test.Qxb6601507aModsBase
import Derived.Deep.OwnRows
namespace Go.Proofs.Qxb6601507aMods
open Go.RowKit

theorem Trym.info2 : (Trym.prog.info? 2).map (fun i => (i.zero, i.size, i.bytes)) = some (some (.int .i64 0), 1, 8) := by kernel_rfl

theorem zzBytes25_ok (a : Option Addr) (len cap : Nat) (x y z : Int) (w : World) (h : len ≤ 1048576) :
    Calls Trym.prog 25 #[.slice a len cap, .int .i64 x, .int .i64 y, .int .i64 z] w fun e w' => e = .returned (.bool true) ∧ w = w' := by
  go_enter Trym.func25, Trym.ntmps25
  go_wp2
  go_ret
  exact ⟨rfl, rfl⟩
theorem zzBytes25_no (a : Option Addr) (len cap : Nat) (x y z : Int) (w : World) (h : 1048576 < len) :
    Calls Trym.prog 25 #[.slice a len cap, .int .i64 x, .int .i64 y, .int .i64 z] w fun e w' => e = .returned (.bool false) ∧ w = w' := by
  go_enter Trym.func25, Trym.ntmps25
  go_wp2
  go_ret
  exact ⟨rfl, rfl⟩

set_option maxHeartbeats 400000 in
theorem clone26 (b off len cap : Nat) (z : Nat → Int) (w : World) (hlen : len ≤ 1048576) (hc : ∀ i, i < len → w.cell? ⟨b, off + i, none⟩ = some (.int .i64 (z i))) :
    Calls Trym.prog 26 #[.slice (some ⟨b, off, none⟩) len cap] w fun e w' => e = .returned (.slice (some ⟨w.heap.size, 0, none⟩) len len) ∧ w'.rowIs w.heap.size 2 len (fun j => .int .i64 (z j)) ∧ Below w.heap.size w w' := by
  have hmk := run_make_row' (P := Trym.prog) 39 2 (.int .i64 0) 8 Trym.underlying39 Trym.info2 rfl .i64 .i64 len (by omega) (by omega)
  have hn := fun (w : World) => Lib.run_eql_slice_nil (P := Trym.prog) w 39 2 (some ⟨b, off, none⟩) len cap 0 0 Trym.underlying39
  have hb : ∀ i, i < len → b < w.heap.size := fun i hi => World.block_lt_of_cell? w _ (hc i hi)
  go_enter Trym.func26, Trym.ntmps26
  go_wp2
  go_loopw [4] (fun i wr => ∃ k : Nat, k ≤ len ∧ i = .int .i64 k ∧ wr.rowIs w.heap.size 2 len (fun j => if j < k then .int .i64 (z j) else .int .i64 0) ∧ Below w.heap.size w wr) (fun i _ => len - (intOf i).toNat)
  case atStart => exact ⟨0, Nat.zero_le _, rfl, (World.rowIs_made _ _ _ _).congr (by intro i _; simp), (Below.refl _ _).alloc (Nat.le_refl _) _⟩
  case round =>
    obtain ⟨k, hk, rfl, hrow, hbel⟩ := hrel
    by_cases hlt : k < len
    · have s1 : wr.cell? ⟨b, off + k, none⟩ = some (.int .i64 (z k)) := (hbel.cell (hb k hlt)).trans (hc k hlt)
      have s2 := hrow.cell hlt
      have s3 := hrow.frozen k
      simp at s2
      have hrow2 := (hrow.set k (.int .i64 (z k))).congr (g := fun j => if j < k + 1 then .int .i64 (z j) else .int .i64 0) (by
        intro i _; by_cases e : i = k
        · subst e; simp
        · by_cases e2 : i < k <;> simp [e, e2] <;> omega)
      have hbel2 := hbel.setCell (p := ⟨w.heap.size, k, none⟩) (Nat.le_refl _) (.int .i64 (z k))
      have HH : Hid ((wr.setCell ⟨w.heap.size, k, none⟩ (.int .i64 (z k))).rowIs w.heap.size 2 len (fun j => if j < k + 1 then .int .i64 (z j) else .int .i64 0) ∧ Below w.heap.size w (wr.setCell ⟨w.heap.size, k, none⟩ (.int .i64 (z k)))) := ⟨hrow2, hbel2⟩
      clear hrow hrow2 hbel hbel2 hc hb hmk hn
      go_wp2
      go_roundw
      case rel => exact ⟨k + 1, by omega, by go_num, HH.out.1, HH.out.2⟩
      case measure => simp [intOf]; omega
    · have e : k = len := by omega
      subst e
      clear hc hb hmk hn
      go_wp2
      go_ret
      exact ⟨rfl, hrow.congr (by intro i hi; simp [hi]), hbel⟩
end Go.Proofs.Qxb6601507aMods
