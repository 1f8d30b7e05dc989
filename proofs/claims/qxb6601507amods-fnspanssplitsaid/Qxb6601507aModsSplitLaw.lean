import Derived.Test.Qxb6601507aModsPlain
namespace Go.Proofs.Qxb6601507aMods
namespace Pl
theorem psum_sealed (z : Nat → Int) : ∀ n, (∀ i, i < n → 1 ≤ z i) → 2 * psum (fun i => sealedOf (z i)) n ≤ 3 * psum z n + 32 * n
  | 0, _ => by simp [psum]
  | n + 1, h => by
    have ih := psum_sealed z n (fun i hi => h i (by omega))
    have h1 := h n (by omega)
    have h2 := (sealedOf_bd (p := z n) (by omega)).2.2
    simp only [psum_succ]
    omega
theorem range'_get (l m j : Nat) (hj : j < m) : (List.range' l m).getD j 0 = l + j := by
  rw [List.getD_eq_getElem?_getD, List.getElem?_range' hj]
  simp
/-- all that the split asks, with every number named -/
theorem split_named (z : Nat → Int) (n : Nat) (off a b : Int) (hp : ∀ i, i < n → 1 ≤ z i) (ho : 0 ≤ off) (ha : 1 ≤ a) (hb : 1 ≤ b) (ht : off + a + b ≤ psum z n) :
    ∃ (l1 m1 l2 m2 m3 : Nat) (st1 en1 st2 en2 : Int), 1 ≤ m1 ∧ 1 ≤ m2 ∧ m1 ≤ n ∧ m2 ≤ n ∧ m3 ≤ n ∧
      inc z off a n = List.range' l1 m1 ∧ inc z (off + a) b n = List.range' l2 m2 ∧ inc z off (a + b) n = List.range' l1 m3 ∧
      startOf (fun i => sealedOf (z i)) z off a n = st1 ∧ endOf (fun i => sealedOf (z i)) z off a n = en1 ∧ startOf (fun i => sealedOf (z i)) z (off + a) b n = st2 ∧ endOf (fun i => sealedOf (z i)) z (off + a) b n = en2 ∧
      startOf (fun i => sealedOf (z i)) z off (a + b) n = st1 ∧ endOf (fun i => sealedOf (z i)) z off (a + b) n = en2 ∧
      st1 ≤ st2 ∧ en1 ≤ en2 ∧ 0 ≤ en1 - st2 ∧ en1 - st2 ≤ 65552 ∧ ((l1 + m1 = l2 + 1 ∧ m3 + 1 = m1 + m2) ∨ (l1 + m1 = l2 ∧ m3 = m1 + m2)) ∧ l1 + m1 ≤ n ∧ l2 + m2 ≤ n := by
  obtain ⟨l1, h1, l2, h2, a1, a2, a3, a4, a5, r1, r2, r3, s1, s2, s3, s4, s5, s6⟩ := split_law (fun i => sealedOf (z i)) z n off a b hp (fun _ _ => rfl) ho ha hb ht
  refine ⟨l1, h1 + 1 - l1, l2, h2 + 1 - l2, h2 + 1 - l1, _, _, _, _, by omega, by omega, by omega, by omega, by omega, r1, r2, r3, rfl, rfl, rfl, rfl, s1, s2, s3, s4, s5, s6, ?_, by omega, by omega⟩
  rcases a5 with a5 | a5
  · left; omega
  · right; omega
end Pl
end Go.Proofs.Qxb6601507aMods
