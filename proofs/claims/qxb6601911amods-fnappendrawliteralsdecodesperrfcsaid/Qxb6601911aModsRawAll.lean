import Derived.Test.Qxb6601911aModsRawMain
namespace Go.Proofs.Qxb6601911aMods
open Go.RowKit
set_option maxHeartbeats 400000 in
set_option maxRecDepth 100000 in
theorem raw_long (ao al : Option Addr) (d n c0 c1 : Nat) (w : World) (h : 1048576 < d + n) (h1 : d ≤ 9223372036854775807) (h2 : n ≤ 9223372036854775807) :
    Calls Trym.prog 3 #[.slice ao d c0, .slice al n c1] w fun e w' => e = .returned (.bool true) ∧ Below w.heap.size w w' := by
  have H := hd (And.intro h (And.intro h1 h2))
  clear h h1 h2
  go_enter Trym.func3, Trym.ntmps3
  go_wp2_with fail
  refine (zzBytes8_no _ _ _ _ _ _ _ H.out.1 H.out.2.1 H.out.2.2).mono ?_
  rintro e w' ⟨rfl, rfl⟩
  go_wp2
  go_ret
  exact ⟨rfl, Below.refl _ _⟩
set_option maxHeartbeats 400000 in
set_option maxRecDepth 100000 in
theorem raw_edge (ao al : Option Addr) (d n c0 c1 : Nat) (w : World) (h : d + n ≤ 1048576) (h1 : 1048576 ≤ n) :
    Calls Trym.prog 3 #[.slice ao d c0, .slice al n c1] w fun e w' => e = .returned (.bool true) ∧ Below w.heap.size w w' := by
  have t1 : decide ((1048576 : Int) < (d : Int)) = false := by simp; omega
  have t2 : decide ((1048576 : Int) < (n : Int)) = false := by simp; omega
  have t3 : decide ((1048576 : Int) < (d : Int) + (n : Int)) = false := by simp; omega
  have t4 : decide ((1048576 : Int) ≤ (n : Int)) = true := by simp; omega
  have q1 : d ≤ 1048576 := by omega
  have q2 : n ≤ 1048577 := by omega
  have H := hd h
  clear h h1
  go_enter Trym.func3, Trym.ntmps3
  go_wp2_with fail
  refine (zzBytes8_ok _ _ _ _ _ _ _ H.out).mono ?_
  rintro e w' ⟨rfl, rfl⟩
  go_wp2
  go_ret
  exact ⟨rfl, Below.refl _ _⟩
end Go.Proofs.Qxb6601911aMods
