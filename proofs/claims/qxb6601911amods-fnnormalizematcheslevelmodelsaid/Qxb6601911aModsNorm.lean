namespace Go.Proofs.Qxb6601911aMods
namespace Nm

def psum (f : Nat → Int) : Nat → Int
  | 0 => 0
  | k + 1 => psum f k + f k
theorem psum_succ (f : Nat → Int) (k : Nat) : psum f (k + 1) = psum f k + f k := rfl
def upd (f : Nat → Int) (i : Nat) (v : Int) : Nat → Int := fun j => if j = i then v else f j
theorem upd_same (f : Nat → Int) (i : Nat) (v : Int) : upd f i v i = v := by simp [upd]
theorem upd_other (f : Nat → Int) {i j : Nat} (v : Int) (h : j ≠ i) : upd f i v j = f j := by simp [upd, h]
theorem psum_congr {f g : Nat → Int} : ∀ n, (∀ i, i < n → f i = g i) → psum f n = psum g n
  | 0, _ => rfl
  | n + 1, h => by rw [psum_succ, psum_succ, psum_congr n (fun i hi => h i (by omega)), h n (by omega)]
theorem psum_upd (f : Nat → Int) (i : Nat) (v : Int) : ∀ n, psum (upd f i v) n = psum f n + (if i < n then v - f i else 0)
  | 0 => by simp [psum]
  | n + 1 => by
    rw [psum_succ, psum_succ, psum_upd f i v n]
    by_cases e : n = i
    · subst e; rw [upd_same]; simp; omega
    · rw [upd_other f v e]
      by_cases h : i < n
      · rw [if_pos h, if_pos (by omega)]; omega
      · rw [if_neg h, if_neg (by omega)]; omega
theorem psum_nonneg (f : Nat → Int) : ∀ n, (∀ i, i < n → 0 ≤ f i) → 0 ≤ psum f n
  | 0, _ => by simp [psum]
  | n + 1, h => by rw [psum_succ]; have := psum_nonneg f n (fun i hi => h i (by omega)); have := h n (by omega); omega
theorem psum_mono (f : Nat → Int) (n : Nat) (h : ∀ i, i < n → 0 ≤ f i) : ∀ a b, a ≤ b → b ≤ n → psum f a ≤ psum f b := by
  intro a b hab
  induction b with
  | zero => intro _; have : a = 0 := by omega
            subst this; exact Int.le_refl _
  | succ b ih =>
    intro hb
    by_cases e : a = b + 1
    · subst e; exact Int.le_refl _
    · have := ih (by omega) (by omega)
      have := h b (by omega)
      rw [psum_succ]; omega
/-- one element is at most the sum -/
theorem le_psum (f : Nat → Int) : ∀ n, (∀ i, i < n → 0 ≤ f i) → ∀ i, i < n → f i ≤ psum f n
  | 0, _, i, hi => absurd hi (by omega)
  | n + 1, h, i, hi => by
    rw [psum_succ]
    have h0 := psum_nonneg f n (fun i hi => h i (by omega))
    by_cases e : i = n
    · subst e; omega
    · have := le_psum f n (fun i hi => h i (by omega)) i (by omega)
      have := h n (by omega)
      omega
theorem psum_le_card (f : Nat → Int) (b : Int) : ∀ n : Nat, (∀ i, i < n → f i ≤ b) → psum f n ≤ b * n
  | 0, _ => by simp [psum]
  | n + 1, h => by
    rw [psum_succ]
    have := psum_le_card f b n (fun i hi => h i (by omega))
    have := h n (by omega)
    rw [show ((n + 1 : Nat) : Int) = (n : Int) + 1 by omega, Int.mul_add]
    omega

/-- the first of the largest among the first k -/
def big (f : Nat → Int) : Nat → Nat
  | 0 => 0
  | k + 1 => if f (big f k) < f k then k else big f k
theorem big_succ (f : Nat → Int) (k : Nat) : big f (k + 1) = if f (big f k) < f k then k else big f k := rfl
theorem big_lt (f : Nat → Int) : ∀ n, 0 < n → big f n < n
  | 0, h => absurd h (by omega)
  | n + 1, _ => by
    rw [big_succ]
    split
    · omega
    · by_cases e : n = 0
      · subst e; simp [big]
      · have := big_lt f n (by omega); omega
theorem big_le (f : Nat → Int) : ∀ k, big f k ≤ k
  | 0 => by simp [big]
  | k + 1 => by rw [big_succ]; have := big_le f k; split <;> omega
theorem big_max (f : Nat → Int) : ∀ n, ∀ i, i < n → f i ≤ f (big f n)
  | 0, i, h => absurd h (by omega)
  | n + 1, i, hi => by
    rw [big_succ]
    by_cases e : i = n
    · subst e; split <;> omega
    · have := big_max f n i (by omega)
      split <;> omega
theorem big_first (f : Nat → Int) : ∀ n, ∀ i, i < big f n → f i < f (big f n)
  | 0, i, h => absurd h (by simp [big])
  | n + 1, i, hi => by
    rw [big_succ] at hi ⊢
    split
    · rename_i hc
      rw [if_pos hc] at hi
      have := big_max f n i hi
      omega
    · rename_i hc
      rw [if_neg hc] at hi
      exact big_first f n i hi

def stepDec (n : Nat) (f : Nat → Int) : Nat → Int := upd f (big f n) (f (big f n) - 1)
def dec (n : Nat) (f : Nat → Int) : Nat → (Nat → Int)
  | 0 => f
  | k + 1 => stepDec n (dec n f k)
theorem dec_succ (n : Nat) (f : Nat → Int) (k : Nat) : dec n f (k + 1) = stepDec n (dec n f k) := rfl

/-- a share, rounded -/
def qOf (size total c : Int) : Int := if c = 0 then 0 else max ((c * size + total / 2) / total) 1
def share (size total : Int) (h : Nat → Int) : Nat → Int := fun i => qOf size total (h i)

theorem qOf_bd {size total c : Int} (ht : 0 < total) (hs : 1 ≤ size) (h0 : 0 ≤ c) (h1 : c ≤ total) : 0 ≤ qOf size total c ∧ qOf size total c ≤ size ∧ (c = 0 → qOf size total c = 0) ∧ (c ≠ 0 → 1 ≤ qOf size total c) ∧ total * qOf size total c ≤ c * size + total := by
  unfold qOf
  by_cases e : c = 0
  · subst e
    simp
    omega
  · rw [if_neg e]
    have hm : c * size ≤ total * size := Int.mul_le_mul_of_nonneg_right h1 (by omega)
    have hx : 0 ≤ c * size := Int.mul_nonneg h0 (by omega)
    have hlt : (c * size + total / 2) / total < size + 1 := by
      refine Int.ediv_lt_of_lt_mul ht ?_
      rw [Int.add_mul, Int.mul_comm size total]
      omega
    have hq : total * ((c * size + total / 2) / total) ≤ c * size + total / 2 := by
      have := Int.mul_ediv_add_emod (c * size + total / 2) total
      have := Int.emod_nonneg (c * size + total / 2) (show total ≠ 0 by omega)
      omega
    refine ⟨by omega, by omega, fun h => absurd h e, fun _ => by omega, ?_⟩
    rcases Int.le_total ((c * size + total / 2) / total) 1 with hle | hle
    · rw [Int.max_eq_right hle]; omega
    · rw [Int.max_eq_left hle]; omega

/-- the model's rounding is the same -/
theorem q_model {x t : Int} : (2 * x + t) / (2 * t) = (x + t / 2) / t := by
  rw [← Int.ediv_ediv_of_nonneg (by omega : (0 : Int) ≤ 2)]
  congr 1
  omega

structure Dom (size total : Int) (h : Nat → Int) (n : Nat) : Prop where
  pos : 0 < total
  size1 : 1 ≤ size
  nonneg : ∀ i, i < n → 0 ≤ h i
  sum : psum h n = total
  half : 2 * (n : Int) ≤ size

variable {size total : Int} {h : Nat → Int} {n : Nat}
theorem Dom.le (D : Dom size total h n) (i : Nat) (hi : i < n) : h i ≤ total := by
  have := le_psum h n D.nonneg i hi; rw [D.sum] at this; exact this
theorem Dom.share (D : Dom size total h n) (i : Nat) (hi : i < n) : 0 ≤ share size total h i ∧ share size total h i ≤ size ∧ (h i = 0 → share size total h i = 0) ∧ (h i ≠ 0 → 1 ≤ share size total h i) ∧ total * share size total h i ≤ h i * size + total :=
  qOf_bd D.pos D.size1 (D.nonneg i hi) (D.le i hi)
theorem Dom.npos (D : Dom size total h n) : 0 < n := by
  rcases Nat.eq_zero_or_pos n with e | e
  · have := D.sum; have := D.pos; subst e; simp [psum] at *; omega
  · exact e
theorem Dom.sums (D : Dom size total h n) : ∀ k : Nat, k ≤ n → total * psum (Nm.share size total h) k ≤ psum h k * size + total * k
  | 0, _ => by simp [psum]
  | k + 1, hk => by
    have ih := D.sums k (by omega)
    have h1 := (D.share k (by omega)).2.2.2.2
    rw [psum_succ, psum_succ, Int.mul_add, Int.add_mul, show ((k + 1 : Nat) : Int) = (k : Int) + 1 by omega, Int.mul_add]
    omega
/-- the sum of the first k does not pass size + k -/
theorem Dom.sum_le (D : Dom size total h n) (k : Nat) (hk : k ≤ n) : 0 ≤ psum (Nm.share size total h) k ∧ psum (Nm.share size total h) k ≤ size + k := by
  refine ⟨psum_nonneg _ k (fun i hi => (D.share i (by omega)).1), ?_⟩
  have h1 := D.sums k hk
  have h2 : psum h k ≤ total := by have := psum_mono h n D.nonneg k n hk (Nat.le_refl _); rw [D.sum] at this; exact this
  have h3 : psum h k * size ≤ total * size := Int.mul_le_mul_of_nonneg_right h2 (by have := D.size1; omega)
  have h4 : total * psum (Nm.share size total h) k ≤ total * (size + k) := by rw [Int.mul_add]; omega
  exact Int.le_of_mul_le_mul_left h4 D.pos

/-- what a table of shares must be -/
structure Good (size : Int) (h : Nat → Int) (n : Nat) (f : Nat → Int) : Prop where
  zero : ∀ i, i < n → h i = 0 → f i = 0
  one : ∀ i, i < n → h i ≠ 0 → 1 ≤ f i
  le : ∀ i, i < n → f i ≤ size
theorem Good.nonneg {f : Nat → Int} (g : Good size h n f) (i : Nat) (hi : i < n) : 0 ≤ f i := by
  by_cases e : h i = 0
  · have := g.zero i hi e; omega
  · have := g.one i hi e; omega
theorem Dom.good (D : Dom size total h n) : Good size h n (Nm.share size total h) :=
  ⟨fun i hi e => (D.share i hi).2.2.1 e, fun i hi e => (D.share i hi).2.2.2.1 e, fun i hi => (D.share i hi).2.1⟩
/-- something counts -/
theorem Dom.some (D : Dom size total h n) : ∃ i, i < n ∧ h i ≠ 0 := by
  refine Classical.byContradiction fun hc => ?_
  have hz : ∀ i, i < n → h i = 0 := fun i hi => Classical.byContradiction fun e => hc ⟨i, hi, e⟩
  have h1 : psum h n ≤ 0 * n := psum_le_card h 0 n (fun i hi => by have := hz i hi; omega)
  rw [D.sum] at h1
  have := D.pos
  omega
theorem Good.dec (D : Dom size total h n) {f : Nat → Int} (g : Good size h n f) (hs : size < psum f n) : Good size h n (stepDec n f) ∧ psum (stepDec n f) n = psum f n - 1 := by
  have hb := big_lt f n D.npos
  have h2 : 2 ≤ f (big f n) := by
    refine Classical.byContradiction fun hc => ?_
    have h1 : psum f n ≤ 1 * n := psum_le_card f 1 n (fun i hi => by have := big_max f n i hi; omega)
    have := D.half
    omega
  have hnz : h (big f n) ≠ 0 := fun e => by have := g.zero _ hb e; omega
  refine ⟨⟨fun i hi e => ?_, fun i hi e => ?_, fun i hi => ?_⟩, ?_⟩
  · rw [stepDec, upd_other]
    · exact g.zero i hi e
    · intro e2; subst e2; exact hnz e
  · by_cases e2 : i = big f n
    · subst e2; rw [stepDec, upd_same]; omega
    · rw [stepDec, upd_other _ _ e2]; exact g.one i hi e
  · by_cases e2 : i = big f n
    · subst e2; rw [stepDec, upd_same]; have := g.le _ hb; omega
    · rw [stepDec, upd_other _ _ e2]; exact g.le i hi
  · rw [stepDec, psum_upd, if_pos hb]; omega
theorem Good.decs (D : Dom size total h n) {f : Nat → Int} (g : Good size h n f) : ∀ x : Nat, size + x ≤ psum f n → Good size h n (Nm.dec n f x) ∧ psum (Nm.dec n f x) n = psum f n - x
  | 0, _ => ⟨g, by simp [Nm.dec]⟩
  | x + 1, hx => by
    obtain ⟨g1, s1⟩ := Good.decs D g x (by omega)
    obtain ⟨g2, s2⟩ := g1.dec D (by omega)
    exact ⟨g2, by rw [dec_succ, s2, s1]; omega⟩
/-- the shortfall goes to the first of the largest -/
def raise (n : Nat) (size : Int) (f : Nat → Int) : Nat → Int := upd f (big f n) (f (big f n) + (size - psum f n))
theorem Good.raise (D : Dom size total h n) {f : Nat → Int} (g : Good size h n f) (hs : psum f n < size) : Good size h n (Nm.raise n size f) ∧ psum (Nm.raise n size f) n = size := by
  have hb := big_lt f n D.npos
  obtain ⟨i0, hi0, hn0⟩ := D.some
  have h1 : 1 ≤ f (big f n) := by have := g.one i0 hi0 hn0; have := big_max f n i0 hi0; omega
  have hnz : h (big f n) ≠ 0 := fun e => by have := g.zero _ hb e; omega
  have hle := le_psum f n (fun i hi => g.nonneg i hi) _ hb
  refine ⟨⟨fun i hi e => ?_, fun i hi e => ?_, fun i hi => ?_⟩, ?_⟩
  · rw [Nm.raise, upd_other]
    · exact g.zero i hi e
    · intro e2; subst e2; exact hnz e
  · by_cases e2 : i = big f n
    · subst e2; rw [Nm.raise, upd_same]; omega
    · rw [Nm.raise, upd_other _ _ e2]; exact g.one i hi e
  · by_cases e2 : i = big f n
    · subst e2; rw [Nm.raise, upd_same]; omega
    · rw [Nm.raise, upd_other _ _ e2]; exact g.le i hi
  · rw [Nm.raise, psum_upd, if_pos hb]; omega

/-- what normalize leaves in the first n entries -/
def normOf (size total : Int) (h : Nat → Int) (n : Nat) : Nat → Int :=
  if psum (share size total h) n < size then raise n size (share size total h) else dec n (share size total h) (psum (share size total h) n - size).toNat
theorem Dom.normOf (D : Dom size total h n) : Good size h n (Nm.normOf size total h n) ∧ psum (Nm.normOf size total h n) n = size := by
  unfold Nm.normOf
  split
  · rename_i hc
    exact D.good.raise D hc
  · rename_i hc
    obtain ⟨g, s⟩ := Good.decs D D.good (psum (Nm.share size total h) n - size).toNat (by omega)
    exact ⟨g, by omega⟩

/-! ### The water level -/
def excess (f : Nat → Int) (t : Int) : Nat → Int
  | 0 => 0
  | k + 1 => excess f t k + (if t < f k then f k - t else 0)
theorem excess_succ (f : Nat → Int) (t : Int) (k : Nat) : excess f t (k + 1) = excess f t k + (if t < f k then f k - t else 0) := rfl
def cnt (f : Nat → Int) (t : Int) : Nat → Nat
  | 0 => 0
  | k + 1 => cnt f t k + (if t ≤ f k then 1 else 0)
theorem cnt_succ (f : Nat → Int) (t : Int) (k : Nat) : cnt f t (k + 1) = cnt f t k + (if t ≤ f k then 1 else 0) := rfl
theorem cnt_mono (f : Nat → Int) (t : Int) (a : Nat) : ∀ b, a ≤ b → cnt f t a ≤ cnt f t b := by
  intro b hab
  induction b with
  | zero => have : a = 0 := by omega
            subst this; exact Nat.le_refl _
  | succ b ih =>
    by_cases e : a = b + 1
    · subst e; exact Nat.le_refl _
    · have := ih (by omega); rw [cnt_succ]; omega
theorem cnt_lt (f : Nat → Int) (t : Int) {a b : Nat} (hab : a < b) (h : t ≤ f a) : cnt f t a < cnt f t b := by
  have := cnt_mono f t (a + 1) b hab
  rw [cnt_succ, if_pos h] at this
  omega
theorem cnt_find (f : Nat → Int) (t : Int) (m : Nat) : ∀ n, m < cnt f t n → ∃ p, p < n ∧ t ≤ f p ∧ cnt f t p = m
  | 0, h => absurd h (by simp [cnt])
  | n + 1, h => by
    by_cases c : m < cnt f t n
    · obtain ⟨p, a, b, c⟩ := cnt_find f t m n c
      exact ⟨p, by omega, b, c⟩
    · rw [cnt_succ] at h
      by_cases e : t ≤ f n
      · rw [if_pos e] at h; exact ⟨n, by omega, e, by omega⟩
      · rw [if_neg e] at h; omega
theorem excess_nonneg (f : Nat → Int) (t : Int) : ∀ n, 0 ≤ excess f t n
  | 0 => by simp [excess]
  | n + 1 => by rw [excess_succ]; have := excess_nonneg f t n; split <;> omega
theorem excess_step (f : Nat → Int) (t : Int) : ∀ n, excess f (t + 1) n + cnt f (t + 1) n = excess f t n
  | 0 => by simp [excess, cnt]
  | n + 1 => by
    have ih := excess_step f t n
    rw [excess_succ, excess_succ, cnt_succ]
    by_cases h : t + 1 ≤ f n
    · rw [if_pos h]
      by_cases h2 : t + 1 < f n
      · rw [if_pos h2, if_pos (by omega)]; omega
      · rw [if_neg h2, if_pos (by omega)]; omega
    · rw [if_neg h, if_neg (by omega), if_neg (by omega)]; omega
theorem excess_zero {f : Nat → Int} {t : Int} : ∀ n, excess f t n = 0 → ∀ i, i < n → f i ≤ t
  | 0, _, i, hi => absurd hi (by omega)
  | n + 1, h, i, hi => by
    rw [excess_succ] at h
    have h0 := excess_nonneg f t n
    by_cases e : i = n
    · subst e
      by_cases c : t < f i
      · rw [if_pos c] at h; omega
      · omega
    · refine excess_zero n ?_ i (by omega)
      split at h <;> omega
theorem excess_of_le {f : Nat → Int} {t : Int} : ∀ n, (∀ i, i < n → f i ≤ t) → excess f t n = 0
  | 0, _ => rfl
  | n + 1, h => by rw [excess_succ, excess_of_le n (fun i hi => h i (by omega)), if_neg (by have := h n (by omega); omega)]; rfl
theorem excess_one {f : Nat → Int} {t : Int} : ∀ n, ∀ i, i < n → f i - t ≤ excess f t n
  | 0, i, hi => absurd hi (by omega)
  | n + 1, i, hi => by
    rw [excess_succ]
    have h0 := excess_nonneg f t n
    by_cases e : i = n
    · subst e; split <;> omega
    · have := excess_one (f := f) (t := t) n i (by omega)
      split <;> omega
theorem excess_sum {f : Nat → Int} : ∀ n, (∀ i, i < n → 0 ≤ f i) → excess f 0 n = psum f n
  | 0, _ => rfl
  | n + 1, h => by
    rw [excess_succ, psum_succ, excess_sum n (fun i hi => h i (by omega))]
    have := h n (by omega)
    split <;> omega

/-- cut to t, and the first m that stand at t one lower -/
def lvl (f : Nat → Int) (t : Int) (m : Nat) : Nat → Int := fun j => if t ≤ f j ∧ cnt f t j < m then t - 1 else min (f j) t

theorem big_unique {g : Nat → Int} {n p : Nat} (hp : p < n) (h1 : ∀ i, i < n → g i ≤ g p) (h2 : ∀ i, i < p → g i < g p) : big g n = p := by
  have hb := big_lt g n (by omega)
  have a1 := big_max g n p hp
  have a2 := h1 _ hb
  rcases Nat.lt_trichotomy (big g n) p with h | h | h
  · have := h2 _ h; omega
  · exact h
  · have := big_first g n p h; omega
theorem big_congr {f g : Nat → Int} {n : Nat} (hn : 0 < n) (h : ∀ i, i < n → f i = g i) : big f n = big g n := by
  have hb := big_lt g n hn
  refine big_unique hb (fun i hi => ?_) (fun i hi => ?_)
  · rw [h i hi, h _ hb]; exact big_max g n i hi
  · rw [h i (by omega), h _ hb]; exact big_first g n i hi
theorem stepDec_congr {f g : Nat → Int} {n : Nat} (hn : 0 < n) (h : ∀ i, i < n → f i = g i) : ∀ i, i < n → stepDec n f i = stepDec n g i := by
  intro i hi
  have hb := big_congr hn h
  have hl := big_lt g n hn
  unfold stepDec
  rw [hb, h _ hl]
  by_cases e : i = big g n
  · subst e; rw [upd_same, upd_same]
  · rw [upd_other _ _ e, upd_other _ _ e]; exact h i hi
theorem lvl_step {f : Nat → Int} {t : Int} {m n : Nat} (hm : m < cnt f t n) : ∀ i, i < n → stepDec n (lvl f t m) i = lvl f t (m + 1) i := by
  obtain ⟨p, hp, hf, hc⟩ := cnt_find f t m n hm
  have gp : lvl f t m p = t := by
    unfold lvl; rw [if_neg (by omega)]; omega
  have hle : ∀ i, lvl f t m i ≤ t := fun i => by unfold lvl; split <;> omega
  have hb : big (lvl f t m) n = p := by
    refine big_unique hp (fun i _ => by rw [gp]; exact hle i) (fun i hi => ?_)
    rw [gp]
    by_cases e : t ≤ f i
    · have := cnt_lt f t hi e
      unfold lvl; rw [if_pos ⟨e, by omega⟩]; omega
    · unfold lvl; rw [if_neg (by omega)]; omega
  intro i hi
  unfold stepDec
  rw [hb, gp]
  by_cases e : i = p
  · subst e
    rw [upd_same]
    unfold lvl; rw [if_pos ⟨hf, by omega⟩]
  · rw [upd_other _ _ e]
    unfold lvl
    by_cases c : t ≤ f i ∧ cnt f t i < m
    · rw [if_pos c, if_pos ⟨c.1, by omega⟩]
    · rw [if_neg c]
      by_cases c2 : t ≤ f i ∧ cnt f t i < m + 1
      · exfalso
        rcases Nat.lt_or_ge i p with h | h
        · have := cnt_lt f t h c2.1; omega
        · have := cnt_lt f t (show p < i by omega) hf; omega
      · rw [if_neg c2]
theorem lvl_next {f : Nat → Int} {t : Int} {n : Nat} : ∀ i, i < n → lvl f (t + 1) (cnt f (t + 1) n) i = lvl f t 0 i := by
  intro i hi
  unfold lvl
  by_cases c : t + 1 ≤ f i
  · rw [if_pos ⟨c, cnt_lt f (t + 1) hi c⟩, if_neg (by omega)]; omega
  · rw [if_neg (by omega), if_neg (by omega)]; omega
/-- lowering the first of the largest x times is cutting to the level -/
theorem dec_level {f : Nat → Int} {n : Nat} (hn : 0 < n) : ∀ (x : Nat) (t : Int) (m : Nat), m ≤ cnt f t n → excess f t n + m = x → ∀ i, i < n → dec n f x i = lvl f t m i
  | 0, t, m, hm, hx, i, hi => by
    have h0 := excess_nonneg f t n
    have h1 : m = 0 := by omega
    have h2 := excess_zero n (show excess f t n = 0 by omega) i hi
    subst h1
    show f i = lvl f t 0 i
    unfold lvl; rw [if_neg (by omega)]; omega
  | x + 1, t, m, hm, hx, i, hi => by
    have key : ∀ (t' : Int) (m' : Nat), m' < cnt f t' n → excess f t' n + m' = x → dec n f (x + 1) i = lvl f t' (m' + 1) i := fun t' m' h1 h2 => by
      rw [dec_succ, stepDec_congr hn (dec_level hn x t' m' (by omega) h2) i hi]
      exact lvl_step h1 i hi
    by_cases h : m = 0
    · subst h
      have hs := excess_step f t n
      have hpos : 0 < cnt f (t + 1) n := by
        rcases Nat.eq_zero_or_pos (cnt f (t + 1) n) with e | e
        · exfalso
          have : ∀ i, i < n → f i ≤ t := fun i hi => by
            refine Classical.byContradiction fun hc => ?_
            have := cnt_lt f (t + 1) hi (show t + 1 ≤ f i by omega)
            omega
          have := excess_of_le n this
          omega
        · exact e
      have := key (t + 1) (cnt f (t + 1) n - 1) (by omega) (by omega)
      rw [show cnt f (t + 1) n - 1 + 1 = cnt f (t + 1) n by omega, lvl_next i hi] at this
      exact this
    · have := key t (m - 1) (by omega) (by omega)
      rw [show m - 1 + 1 = m by omega] at this
      exact this

/-- the running maximum, from 0 on -/
def mx (f : Nat → Int) : Nat → Int
  | 0 => 0
  | k + 1 => if mx f k < f k then f k else mx f k
theorem mx_succ (f : Nat → Int) (k : Nat) : mx f (k + 1) = if mx f k < f k then f k else mx f k := rfl
theorem mx_nonneg (f : Nat → Int) : ∀ n, 0 ≤ mx f n
  | 0 => by simp [mx]
  | n + 1 => by rw [mx_succ]; have := mx_nonneg f n; split <;> omega
theorem mx_max (f : Nat → Int) : ∀ n, ∀ i, i < n → f i ≤ mx f n
  | 0, i, h => absurd h (by omega)
  | n + 1, i, hi => by
    rw [mx_succ]
    by_cases e : i = n
    · subst e; split <;> omega
    · have := mx_max f n i (by omega); split <;> omega
theorem mx_le (f : Nat → Int) (b : Int) (hb : 0 ≤ b) : ∀ n, (∀ i, i < n → f i ≤ b) → mx f n ≤ b
  | 0, _ => by simpa [mx] using hb
  | n + 1, h => by rw [mx_succ]; have := mx_le f b hb n (fun i hi => h i (by omega)); have := h n (by omega); split <;> omega
theorem mx_at (f : Nat → Int) : ∀ n, 0 < mx f n → ∃ i, i < n ∧ f i = mx f n
  | 0, h => absurd h (by simp [mx])
  | n + 1, h => by
    rw [mx_succ] at h ⊢
    by_cases c : mx f n < f n
    · rw [if_pos c]; exact ⟨n, by omega, rfl⟩
    · rw [if_neg c] at h ⊢
      obtain ⟨i, a, b⟩ := mx_at f n h
      exact ⟨i, by omega, b⟩
/-- the level that the loop stops at is fit -/
theorem level_fit {f : Nat → Int} {n : Nat} {k t : Int} (hk : 0 < k) (hks : k < psum f n) (hf : ∀ i, i < n → 0 ≤ f i) (ht : t ≤ mx f n) (h0 : t = max (mx f n - k) 0 ∨ k < excess f (t - 1) n) (he : excess f t n ≤ k) :
    (k - excess f t n).toNat ≤ cnt f t n := by
  rcases h0 with h0 | h0
  · have hmx : 0 < mx f n := by
      refine Classical.byContradiction fun hc => ?_
      have h1 : psum f n ≤ 0 * n := psum_le_card f 0 n (fun i hi => by have := mx_max f n i hi; omega)
      omega
    by_cases c : 0 ≤ mx f n - k
    · obtain ⟨i, hi, e⟩ := mx_at f n hmx
      have := excess_one (f := f) (t := t) n i hi
      omega
    · have : t = 0 := by omega
      subst this
      rw [excess_sum n hf] at he
      omega
  · have := excess_step f (t - 1) n
    rw [show t - 1 + 1 = t by omega] at this
    omega
end Nm
end Go.Proofs.Qxb6601911aMods
