import Derived.Test.Qxb6601507aModsSealed
namespace Go.Proofs.Qxb6601507aMods
open Go.RowKit

/-- what the sealed range of a read is, as inequalities -/
theorem zzSealed_law (size off ln : Int) (w : World) (h0 : 0 ≤ off) (h1 : 0 ≤ ln) (h2 : off + ln ≤ 9221120786662653935) :
    Calls Trym.prog 19 #[.int .i64 size, .int .i64 off, .int .i64 ln] w fun e w' => ∃ st en : Int, e = .returned (.tuple #[.int .i64 st, .int .i64 en]) ∧
      Hid (st = off / 65536 * 65552 ∧ en = min ((max (off + ln - 1) off / 65536 + 1) * 65552) size) ∧ Grown w w' := by
  refine (zzSealed_any size off ln w h0 h1 (by omega) ?_ ?_).mono ?_
  · omega
  · omega
  · rintro e w' ⟨rfl, hg⟩
    exact ⟨_, _, rfl, ⟨rfl, rfl⟩, hg⟩
theorem zzSealed_zero (w : World) :
    Calls Trym.prog 19 #[.int .i64 16, .int .i64 0, .int .i64 0] w fun e w' => e = .returned (.tuple #[.int .i64 0, .int .i64 16]) ∧ Grown w w' := by
  refine (zzSealed_law 16 0 0 w (by omega) (by omega) (by omega)).mono ?_
  rintro e w' ⟨st, en, rfl, hh, hg⟩
  have h1 : st = 0 := by have := hh.out; omega
  have h2 : en = 16 := by have := hh.out; omega
  subst h1 h2
  exact ⟨rfl, hg⟩

set_option maxHeartbeats 1000000 in
set_option maxRecDepth 100000 in
theorem cover_any (a0 : Int) (a1 : Int) (a2 : Int) (w0 : (Lit.int .i64 a0).wf = true) (w1 : (Lit.int .i64 a1).wf = true) (w2 : (Lit.int .i64 a2).wf = true) (w : World) :
    Calls Trym.prog 7 #[.int .i64 a0, .int .i64 a1, .int .i64 a2] w fun e w' => e = .returned (.bool true) ∧ Grown w w' := by
  have b0 := bounds_i64 w0
  have b1 := bounds_i64 w1
  have b2 := bounds_i64 w2
  clear w0 w1 w2
  by_cases c1 : a0 < 16
  · go_enter Trym.func7, Trym.ntmps7
    go_wp2
    go_ret
    exact ⟨rfl, Grown.refl _⟩
  by_cases c2 : 9223372036854710255 < a0
  · go_enter Trym.func7, Trym.ntmps7
    go_wp2
    go_ret
    exact ⟨rfl, Grown.refl _⟩
  have d1 : decide (a0 < 16) = false := by simp; omega
  have d2 : decide (9223372036854710255 < a0) = false := by simp; omega
  by_cases c3 : a0 = 16
  · subst c3
    by_cases c4 : a1 = 0
    · subst c4
      by_cases c5 : a2 = 0
      · subst c5
        go_enter Trym.func7, Trym.ntmps7
        go_wp2_with (go_at_call 19; refine (zzSealed_zero _).mono ?_; rintro e w' ⟨rfl, hg⟩)
        go_ret
        exact ⟨ret_true (by simp), by assumption⟩
      · have e5 : (a2 != 0) = true := by simp [c5]
        go_enter Trym.func7, Trym.ntmps7
        go_wp2
        go_ret
        exact ⟨rfl, Grown.refl _⟩
    · have e4 : (a1 != 0) = true := by simp [c4]
      go_enter Trym.func7, Trym.ntmps7
      go_wp2
      go_ret
      exact ⟨rfl, Grown.refl _⟩
  have e3 : (a0 != 16) = true := by simp [c3]
  by_cases c6 : a0 % 65552 = 0
  · -- whole blocks
    have e6 : (a0 % 65552 != 0) = false := by simp [c6]
    have P0 : (a0 - 16 * (a0 / 65552) == 0) = false := by simp; omega
    have hK : a0 ≤ a0 / 65552 * 65552 := by omega
    clear c6
    by_cases k1 : a2 < 1
    · go_enter Trym.func7, Trym.ntmps7
      go_wp2
      go_ret
      exact ⟨rfl, Grown.refl _⟩
    have n1 : decide (a2 < 1) = false := by simp; omega
    by_cases k2 : a1 < 0
    · go_enter Trym.func7, Trym.ntmps7
      go_wp2
      go_ret
      exact ⟨rfl, Grown.refl _⟩
    have n2 : decide (a1 < 0) = false := by simp; omega
    by_cases k3 : a0 - 16 * (a0 / 65552) < a2
    · go_enter Trym.func7, Trym.ntmps7
      go_wp2
      go_ret
      exact ⟨rfl, Grown.refl _⟩
    have n3 : decide (a0 - 16 * (a0 / 65552) < a2) = false := by simp; omega
    by_cases k4 : a0 - 16 * (a0 / 65552) - a2 < a1
    · go_enter Trym.func7, Trym.ntmps7
      go_wp2
      go_ret
      exact ⟨rfl, Grown.refl _⟩
    have n4 : decide (a0 - 16 * (a0 / 65552) - a2 < a1) = false := by simp; omega
    go_enter Trym.func7, Trym.ntmps7
    go_wp2_with fail
    refine (zzSealed_law _ _ _ _ (by omega) (by omega) (by omega)).mono ?_
    rintro e w' ⟨st, en, rfl, hh, hg⟩
    obtain ⟨hst, hen⟩ := hh.out
    have q1 : decide (st < 0) = false := by simp; omega
    have q2 : (st % 65552 != 0) = false := by simp; omega
    have q3 : decide (en ≤ st) = false := by simp; omega
    have q4 : decide (a0 < en) = false := by simp; omega
    have r1 : 0 ≤ st := by omega
    have r2 : st < en := by omega
    have r3 : en ≤ a0 := by omega
    have q5 : (en % 65552 != 0) = false := by simp; omega
    have q6 : ((en - st) % 65552 != 0) = false := by simp; omega
    have u1 : decide (st / 65552 * 65536 ≤ a1) = true := by simp; omega
    have u2 : decide (a1 + a2 ≤ st / 65552 * 65536 + (en - st) - 16 * ((en - st) / 65552)) = true := by simp; omega
    have u3 : decide (a1 - st / 65552 * 65536 < 65536) = true := by simp; omega
    have u4 : decide (st / 65552 * 65536 + (en - st) - 16 * ((en - st) / 65552) - (a1 + a2) < 65536) = true := by simp; omega
    have v1 : st / 65552 * 65536 ≤ a1 := by omega
    have v2 : a1 + a2 ≤ st / 65552 * 65536 + (en - st) - 16 * ((en - st) / 65552) := by omega
    have v3 : st / 65552 * 65536 + (en - st) - 16 * ((en - st) / 65552) - (a1 + a2) < 65536 := by omega
    clear hst hen hh
    go_wp2
    go_ret
    exact ⟨ret_true (by simp), by assumption⟩
  have e6 : (a0 % 65552 != 0) = true := by simp [c6]
  by_cases c7 : a0 % 65552 ≤ 16
  · go_enter Trym.func7, Trym.ntmps7
    go_wp2
    go_ret
    exact ⟨rfl, Grown.refl _⟩
  · -- the last block is short
    have e7 : decide (a0 % 65552 ≤ 16) = false := by simp; omega
    have P0 : (a0 - 16 * (a0 / 65552 + 1) == 0) = false := by simp; omega
    by_cases k1 : a2 < 1
    · go_enter Trym.func7, Trym.ntmps7
      go_wp2
      go_ret
      exact ⟨rfl, Grown.refl _⟩
    have n1 : decide (a2 < 1) = false := by simp; omega
    by_cases k2 : a1 < 0
    · go_enter Trym.func7, Trym.ntmps7
      go_wp2
      go_ret
      exact ⟨rfl, Grown.refl _⟩
    have n2 : decide (a1 < 0) = false := by simp; omega
    by_cases k3 : a0 - 16 * (a0 / 65552 + 1) < a2
    · go_enter Trym.func7, Trym.ntmps7
      go_wp2
      go_ret
      exact ⟨rfl, Grown.refl _⟩
    have n3 : decide (a0 - 16 * (a0 / 65552 + 1) < a2) = false := by simp; omega
    by_cases k4 : a0 - 16 * (a0 / 65552 + 1) - a2 < a1
    · go_enter Trym.func7, Trym.ntmps7
      go_wp2
      go_ret
      exact ⟨rfl, Grown.refl _⟩
    have n4 : decide (a0 - 16 * (a0 / 65552 + 1) - a2 < a1) = false := by simp; omega
    have hK : a0 / 65552 * 65552 + 16 < a0 := by omega
    go_enter Trym.func7, Trym.ntmps7
    go_wp2_with fail
    refine (zzSealed_law _ _ _ _ (by omega) (by omega) (by omega)).mono ?_
    rintro e w' ⟨st, en, rfl, hh, hg⟩
    obtain ⟨hst, hen⟩ := hh.out
    have q1 : decide (st < 0) = false := by simp; omega
    have q2 : (st % 65552 != 0) = false := by simp; omega
    have q3 : decide (en ≤ st) = false := by simp; omega
    have q4 : decide (a0 < en) = false := by simp; omega
    have r1 : 0 ≤ st := by omega
    have r2 : st < en := by omega
    have r3 : en ≤ a0 := by omega
    by_cases q5' : en % 65552 = 0
    · have q5 : (en % 65552 != 0) = false := by simp [q5']
      have q6 : ((en - st) % 65552 != 0) = false := by simp; omega
      have u1 : decide (st / 65552 * 65536 ≤ a1) = true := by simp; omega
      have u2 : decide (a1 + a2 ≤ st / 65552 * 65536 + (en - st) - 16 * ((en - st) / 65552)) = true := by simp; omega
      have u3 : decide (a1 - st / 65552 * 65536 < 65536) = true := by simp; omega
      have u4 : decide (st / 65552 * 65536 + (en - st) - 16 * ((en - st) / 65552) - (a1 + a2) < 65536) = true := by simp; omega
      have v1 : st / 65552 * 65536 ≤ a1 := by omega
      have v2 : a1 + a2 ≤ st / 65552 * 65536 + (en - st) - 16 * ((en - st) / 65552) := by omega
      have v3 : st / 65552 * 65536 + (en - st) - 16 * ((en - st) / 65552) - (a1 + a2) < 65536 := by omega
      clear hst hen hh
      go_wp2
      go_ret
      exact ⟨ret_true (by simp), by assumption⟩
    · have q5 : (en % 65552 != 0) = true := by simp [q5']
      have q7 : (en != a0) = false := by simp; omega
      have q6 : ((en - st) % 65552 != 0) = true := by simp; omega
      have u1 : decide (st / 65552 * 65536 ≤ a1) = true := by simp; omega
      have u2 : decide (a1 + a2 ≤ st / 65552 * 65536 + (en - st) - 16 * ((en - st) / 65552 + 1)) = true := by simp; omega
      have u3 : decide (a1 - st / 65552 * 65536 < 65536) = true := by simp; omega
      have u4 : decide (st / 65552 * 65536 + (en - st) - 16 * ((en - st) / 65552 + 1) - (a1 + a2) < 65536) = true := by simp; omega
      have v1 : st / 65552 * 65536 ≤ a1 := by omega
      have v2 : a1 + a2 ≤ st / 65552 * 65536 + (en - st) - 16 * ((en - st) / 65552 + 1) := by omega
      have v3 : st / 65552 * 65536 + (en - st) - 16 * ((en - st) / 65552 + 1) - (a1 + a2) < 65536 := by omega
      clear hst hen hh
      go_wp2
      go_ret
      exact ⟨ret_true (by simp), by assumption⟩
end Go.Proofs.Qxb6601507aMods
