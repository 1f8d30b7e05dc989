namespace Go.Proofs.Qxb6601507aMods
namespace Pl

def BK : Int := 65536
def SB : Int := 65552

/-- prefix sums -/
def psum (f : Nat → Int) : Nat → Int
  | 0 => 0
  | k + 1 => psum f k + f k

theorem psum_succ (f : Nat → Int) (k : Nat) : psum f (k + 1) = psum f k + f k := rfl
theorem psum_mono (f : Nat → Int) (n : Nat) (h : ∀ i, i < n → 0 ≤ f i) : ∀ a b, a ≤ b → b ≤ n → psum f a ≤ psum f b := by
  intro a b hab
  induction b with
  | zero => intro _; have : a = 0 := by omega
            subst this; exact Int.le_refl _
  | succ b ih =>
    intro hb
    by_cases e : a = b + 1
    · subst e; exact Int.le_refl _
    · have := ih (by omega) (by omega)
      have := h b (by omega)
      rw [psum_succ]; omega
theorem psum_nonneg (f : Nat → Int) (n : Nat) (h : ∀ i, i < n → 0 ≤ f i) (k : Nat) (hk : k ≤ n) : 0 ≤ psum f k :=
  psum_mono f n h 0 k (Nat.zero_le _) hk

/-- is part k met by the read of ln bytes from off on? -/
def incB (pl : Nat → Int) (off ln : Int) (k : Nat) : Bool :=
  if ln = 0 then k == 0 else decide (off < psum pl (k + 1) ∧ psum pl k < off + ln)

/-- the indices met among the first k parts -/
def inc (pl : Nat → Int) (off ln : Int) : Nat → List Nat
  | 0 => []
  | k + 1 => inc pl off ln k ++ (if incB pl off ln k then [k] else [])

/-- where the read begins in part k, and how many of its bytes it takes -/
def fromOf (pl : Nat → Int) (off ln : Int) (k : Nat) : Int :=
  if ln = 0 then 0 else max off (psum pl k) - psum pl k
def lenOf (pl : Nat → Int) (off ln : Int) (k : Nat) : Int :=
  if ln = 0 then 0 else min (off + ln) (psum pl (k + 1)) - psum pl k - (max off (psum pl k) - psum pl k)
def firstOf (pl : Nat → Int) (off ln : Int) (k : Nat) : Int := fromOf pl off ln k / 65536
def lastOf (pl : Nat → Int) (off ln : Int) (k : Nat) : Int := max (fromOf pl off ln k + lenOf pl off ln k - 1) (fromOf pl off ln k) / 65536
def skipOf (pl : Nat → Int) (off ln : Int) (k : Nat) : Int := fromOf pl off ln k - firstOf pl off ln k * 65536

def startAt (se pl : Nat → Int) (off ln : Int) (k : Nat) : Int := psum se k + firstOf pl off ln k * 65552
def endAt (se pl : Nat → Int) (off ln : Int) (k : Nat) : Int := psum se k + min ((lastOf pl off ln k + 1) * 65552) (se k)

def startOf (se pl : Nat → Int) (off ln : Int) (k : Nat) : Int :=
  match (inc pl off ln k).head? with
  | none => 0
  | some i => startAt se pl off ln i
def endOf (se pl : Nat → Int) (off ln : Int) (k : Nat) : Int :=
  match (inc pl off ln k).getLast? with
  | none => 0
  | some i => endAt se pl off ln i

theorem inc_yes {pl : Nat → Int} {off ln : Int} {k : Nat} (h : incB pl off ln k = true) : inc pl off ln (k + 1) = inc pl off ln k ++ [k] := by simp [inc, h]
theorem inc_no {pl : Nat → Int} {off ln : Int} {k : Nat} (h : incB pl off ln k = false) : inc pl off ln (k + 1) = inc pl off ln k := by simp [inc, h]
theorem inc_len_le (pl : Nat → Int) (off ln : Int) : ∀ k, (inc pl off ln k).length ≤ k
  | 0 => by simp [inc]
  | k + 1 => by
    have := inc_len_le pl off ln k
    simp only [inc, List.length_append]
    split <;> simp <;> omega
theorem inc_lt (pl : Nat → Int) (off ln : Int) : ∀ k, ∀ i ∈ inc pl off ln k, i < k ∧ incB pl off ln i = true
  | 0 => by simp [inc]
  | k + 1 => by
    intro i hi
    simp only [inc, List.mem_append] at hi
    rcases hi with hi | hi
    · have := inc_lt pl off ln k i hi; exact ⟨by omega, this.2⟩
    · split at hi
      · simp at hi; subst hi; exact ⟨by omega, by assumption⟩
      · simp at hi
/-- the list only grows -/
theorem inc_prefix (pl : Nat → Int) (off ln : Int) (a : Nat) : ∀ b, a ≤ b → ∃ r, inc pl off ln b = inc pl off ln a ++ r := by
  intro b hab
  induction b with
  | zero => have : a = 0 := by omega
            subst this; exact ⟨[], by simp⟩
  | succ b ih =>
    by_cases e : a = b + 1
    · subst e; exact ⟨[], by simp⟩
    · obtain ⟨r, hr⟩ := ih (by omega)
      exact ⟨r ++ (if incB pl off ln b then [b] else []), by simp only [inc, hr, List.append_assoc]⟩
theorem inc_stop {pl : Nat → Int} {off ln : Int} {a n : Nat} (han : a ≤ n) (h : ∀ i, a ≤ i → i < n → incB pl off ln i = false) : inc pl off ln n = inc pl off ln a := by
  induction n with
  | zero => have : a = 0 := by omega
            subst this; rfl
  | succ b ih =>
    by_cases e : a = b + 1
    · subst e; rfl
    · rw [inc_no (h b (by omega) (by omega))]; exact ih (by omega) (fun i h1 h2 => h i h1 (by omega))
/-- past a part that begins at or behind the read's end nothing is met -/
theorem incB_past {pl : Nat → Int} {off ln : Int} {a n : Nat} (hp : ∀ i, i < n → 0 ≤ pl i) (hl : ln ≠ 0) (h : off + ln ≤ psum pl a) : ∀ i, a ≤ i → i < n → incB pl off ln i = false := by
  intro i h1 h2
  have := psum_mono pl n hp a i h1 (by omega)
  simp [incB, hl]; intro _; omega
theorem inc_past {pl : Nat → Int} {off ln : Int} {a n : Nat} (han : a ≤ n) (hp : ∀ i, i < n → 0 ≤ pl i) (hl : ln ≠ 0) (h : off + ln ≤ psum pl a) : inc pl off ln n = inc pl off ln a :=
  inc_stop han (incB_past hp hl h)
theorem inc_get {pl : Nat → Int} {off ln : Int} {k n : Nat} (hkn : k < n) (h : incB pl off ln k = true) :
    (inc pl off ln k).length < (inc pl off ln n).length ∧ (inc pl off ln n)[(inc pl off ln k).length]? = some k := by
  obtain ⟨r, hr⟩ := inc_prefix pl off ln (k + 1) n (by omega)
  rw [hr, inc_yes h]
  simp
theorem startOf_yes {se pl : Nat → Int} {off ln : Int} {k : Nat} (h : incB pl off ln k = true) :
    startOf se pl off ln (k + 1) = if (inc pl off ln k).length = 0 then startAt se pl off ln k else startOf se pl off ln k := by
  unfold startOf; rw [inc_yes h]
  cases inc pl off ln k with
  | nil => simp
  | cons x l => simp
theorem startOf_no {se pl : Nat → Int} {off ln : Int} {k : Nat} (h : incB pl off ln k = false) : startOf se pl off ln (k + 1) = startOf se pl off ln k := by
  unfold startOf; rw [inc_no h]
theorem endOf_yes {se pl : Nat → Int} {off ln : Int} {k : Nat} (h : incB pl off ln k = true) : endOf se pl off ln (k + 1) = endAt se pl off ln k := by
  unfold endOf; rw [inc_yes h]; simp
theorem endOf_no {se pl : Nat → Int} {off ln : Int} {k : Nat} (h : incB pl off ln k = false) : endOf se pl off ln (k + 1) = endOf se pl off ln k := by
  unfold endOf; rw [inc_no h]

/-! ### the read within bounds -/
theorem inc_range (pl : Nat → Int) (off ln : Int) (n lo hi : Nat) (hp : ∀ i, i < n → 0 ≤ pl i) (hln : 0 < ln) (hlo : lo ≤ hi) (hhi : hi < n)
    (h1 : psum pl lo ≤ off) (h2 : off < psum pl (lo + 1)) (h3 : psum pl hi < off + ln) (h4 : off + ln ≤ psum pl (hi + 1)) :
    ∀ k, k ≤ n → inc pl off ln k = List.range' lo (min k (hi + 1) - lo) := by
  intro k
  induction k with
  | zero => intro _; simp [inc]
  | succ k ih =>
    intro hk
    have hne : ln ≠ 0 := by omega
    have ih := ih (by omega)
    by_cases c1 : k < lo
    · have := psum_mono pl n hp (k + 1) lo (by omega) (by omega)
      rw [inc_no (by simp [incB, hne]; intro _; omega), ih]
      congr 1; omega
    · by_cases c2 : k ≤ hi
      · have a1 := psum_mono pl n hp (lo + 1) (k + 1) (by omega) (by omega)
        have a2 := psum_mono pl n hp k hi (by omega) (by omega)
        rw [inc_yes (by simp [incB, hne]; omega), ih]
        have e1 : min k (hi + 1) - lo = k - lo := by omega
        have e2 : min (k + 1) (hi + 1) - lo = (k - lo) + 1 := by omega
        rw [e1, e2, List.range'_concat]
        congr 1; simp; omega
      · have a1 := psum_mono pl n hp (hi + 1) k (by omega) (by omega)
        rw [inc_no (by simp [incB, hne]; intro _; omega), ih]
        congr 1; omega
theorem inc_whole {pl : Nat → Int} {off ln : Int} {n lo hi : Nat} (hp : ∀ i, i < n → 0 ≤ pl i) (hln : 0 < ln) (hlo : lo ≤ hi) (hhi : hi < n)
    (h1 : psum pl lo ≤ off) (h2 : off < psum pl (lo + 1)) (h3 : psum pl hi < off + ln) (h4 : off + ln ≤ psum pl (hi + 1)) :
    inc pl off ln n = List.range' lo (hi + 1 - lo) := by
  rw [inc_range pl off ln n lo hi hp hln hlo hhi h1 h2 h3 h4 n (Nat.le_refl _)]
  congr 1; omega
/-- the part that holds byte x -/
theorem part_of (pl : Nat → Int) (n : Nat) (hp : ∀ i, i < n → 0 ≤ pl i) (x : Int) (h0 : 0 ≤ x) : x < psum pl n → ∃ k, k < n ∧ psum pl k ≤ x ∧ x < psum pl (k + 1) := by
  induction n with
  | zero => intro h; simp [psum] at h; omega
  | succ n ih =>
    intro h
    by_cases c : x < psum pl n
    · obtain ⟨k, a, b, c⟩ := ih (fun i hi => hp i (by omega)) c
      exact ⟨k, by omega, b, c⟩
    · exact ⟨n, by omega, by omega, h⟩
theorem startOf_range {se pl : Nat → Int} {off ln : Int} {n lo m : Nat} (h : inc pl off ln n = List.range' lo (m + 1)) : startOf se pl off ln n = startAt se pl off ln lo := by
  unfold startOf; rw [h]; simp [List.range'_succ]
theorem endOf_range {se pl : Nat → Int} {off ln : Int} {n lo m : Nat} (h : inc pl off ln n = List.range' lo (m + 1)) : endOf se pl off ln n = endAt se pl off ln (lo + m) := by
  unfold endOf; rw [h, List.range'_concat]; simp

def sealedOf (p : Int) : Int := p + 16 * (if p % 65536 ≠ 0 ∨ p = 0 then p / 65536 + 1 else p / 65536)

theorem sealedOf_block {p x : Int} (_hx : 0 ≤ x) (hp : x < p) : x / 65536 * 65552 ≤ sealedOf p := by
  unfold sealedOf; split <;> omega
theorem sealedOf_last {p : Int} (hp : 1 ≤ p) : sealedOf p ≤ ((p - 1) / 65536 + 1) * 65552 := by
  unfold sealedOf; split <;> omega
theorem sealedOf_bd {p : Int} (hp : 0 ≤ p) : p ≤ sealedOf p ∧ sealedOf p ≤ p + 16 * (p / 65536 + 1) ∧ sealedOf p ≤ p + p / 4096 + 16 := by
  unfold sealedOf; split <;> omega

theorem startAt_eq {se pl : Nat → Int} {off ln : Int} {k : Nat} (hln : 0 < ln) (h1 : psum pl k ≤ off) : startAt se pl off ln k = psum se k + (off - psum pl k) / 65536 * 65552 := by
  have hne : ln ≠ 0 := by omega
  have e : max off (psum pl k) = off := by omega
  simp [startAt, firstOf, fromOf, hne, e]
theorem endAt_eq {se pl : Nat → Int} {off ln : Int} {k : Nat} (hln : 0 < ln) (_h0 : off < psum pl (k + 1)) (h1 : psum pl k < off + ln) (h2 : off + ln ≤ psum pl (k + 1)) :
    endAt se pl off ln k = psum se k + min (((off + ln - psum pl k - 1) / 65536 + 1) * 65552) (se k) := by
  have hne : ln ≠ 0 := by omega
  have e : min (off + ln) (psum pl (k + 1)) = off + ln := by omega
  simp only [endAt, lastOf, lenOf, fromOf, hne, e, if_false]
  congr 5
  omega

/-- WHAT FnSpansSplit ASKS, of the plain functions. -/
theorem split_law (se pl : Nat → Int) (n : Nat) (off a b : Int) (hp : ∀ i, i < n → 1 ≤ pl i) (hse : ∀ i, i < n → se i = sealedOf (pl i)) (ho : 0 ≤ off) (ha : 1 ≤ a) (hb : 1 ≤ b) (ht : off + a + b ≤ psum pl n) :
    ∃ l1 h1 l2 h2 : Nat, l1 ≤ h1 ∧ l2 ≤ h2 ∧ h1 < n ∧ h2 < n ∧ (l2 = h1 ∨ l2 = h1 + 1) ∧
      inc pl off a n = List.range' l1 (h1 + 1 - l1) ∧ inc pl (off + a) b n = List.range' l2 (h2 + 1 - l2) ∧ inc pl off (a + b) n = List.range' l1 (h2 + 1 - l1) ∧
      startOf se pl off (a + b) n = startOf se pl off a n ∧ endOf se pl off (a + b) n = endOf se pl (off + a) b n ∧
      startOf se pl off a n ≤ startOf se pl (off + a) b n ∧ endOf se pl off a n ≤ endOf se pl (off + a) b n ∧
      0 ≤ endOf se pl off a n - startOf se pl (off + a) b n ∧ endOf se pl off a n - startOf se pl (off + a) b n ≤ 65552 := by
  have hp0 : ∀ i, i < n → 0 ≤ pl i := fun i hi => by have := hp i hi; omega
  have hs0 : ∀ i, i < n → 0 ≤ se i := fun i hi => by have := hp i hi; rw [hse i hi]; have := (sealedOf_bd (hp0 i hi)).1; omega
  obtain ⟨l1, a1, a2, a3⟩ := part_of pl n hp0 off ho (by omega)
  obtain ⟨h1, b1, b2, b3⟩ := part_of pl n hp0 (off + a - 1) (by omega) (by omega)
  obtain ⟨l2, c1, c2, c3⟩ := part_of pl n hp0 (off + a) (by omega) (by omega)
  obtain ⟨h2, d1, d2, d3⟩ := part_of pl n hp0 (off + a + b - 1) (by omega) (by omega)
  have mono := psum_mono pl n hp0
  have smono := psum_mono se n hs0
  have e1 : l1 ≤ h1 := by
    rcases Nat.lt_or_ge h1 l1 with h | h
    · have := mono (h1 + 1) l1 (by omega) (by omega); omega
    · exact h
  have e2 : l2 ≤ h2 := by
    rcases Nat.lt_or_ge h2 l2 with h | h
    · have := mono (h2 + 1) l2 (by omega) (by omega); omega
    · exact h
  have e3 : h1 ≤ l2 := by
    rcases Nat.lt_or_ge l2 h1 with h | h
    · have := mono (l2 + 1) h1 (by omega) (by omega); omega
    · exact h
  have e4 : l2 = h1 ∨ (l2 = h1 + 1 ∧ off + a = psum pl l2) := by
    by_cases c : l2 = h1
    · exact .inl c
    · right
      have m1 := mono (h1 + 1) l2 (by omega) (by omega)
      have m2 : l2 = h1 + 1 := by
        by_cases c2 : l2 = h1 + 1
        · exact c2
        · have m3 := mono (h1 + 1 + 1) l2 (by omega) (by omega)
          have m4 := psum_succ pl (h1 + 1)
          have m5 := hp (h1 + 1) (by omega)
          omega
      refine ⟨m2, ?_⟩
      subst m2; omega
  have r1 := inc_whole (pl := pl) (off := off) (ln := a) hp0 (by omega) e1 b1 a2 a3 (by omega) (by omega)
  have r2 := inc_whole (pl := pl) (off := off + a) (ln := b) hp0 (by omega) e2 d1 c2 c3 (by omega) (by omega)
  have r3 := inc_whole (pl := pl) (off := off) (ln := a + b) hp0 (by omega) (by omega : l1 ≤ h2) d1 a2 a3 (by omega) (by omega)
  have i1 : h1 + 1 - l1 = (h1 - l1) + 1 := by omega
  have i2 : h2 + 1 - l2 = (h2 - l2) + 1 := by omega
  have i3 : h2 + 1 - l1 = (h2 - l1) + 1 := by omega
  refine ⟨l1, h1, l2, h2, e1, e2, b1, d1, by omega, r1, r2, r3, ?_⟩
  rw [i1] at r1; rw [i2] at r2; rw [i3] at r3
  have j1 : l1 + (h1 - l1) = h1 := by omega
  have j2 : l2 + (h2 - l2) = h2 := by omega
  have j3 : l1 + (h2 - l1) = h2 := by omega
  rw [startOf_range r1, startOf_range r2, startOf_range r3, endOf_range r1, endOf_range r2, endOf_range r3, j1, j2, j3]
  have mh := mono (h1 + 1) (h2 + 1) (by omega) (by omega)
  have ml := mono (l1 + 1) (h1 + 1) (by omega) (by omega)
  have mh2 := mono (l2 + 1) (h2 + 1) (by omega) (by omega)
  rw [startAt_eq (by omega) a2, startAt_eq (by omega) a2, startAt_eq (by omega) c2, endAt_eq (by omega) (by omega) (by omega) (by omega),
    endAt_eq (by omega) (by omega) (by omega) (by omega), endAt_eq (by omega) (by omega) (by omega) (by omega)]
  have q1 := psum_succ se h1
  have q2 := psum_succ se l1
  have q3 := psum_succ pl h1
  have q4 := psum_succ pl l1
  have q5 := psum_succ pl l2
  have eh1 := hse h1 b1
  have el1 := hse l1 a1
  have el2 := hse l2 c1
  have sl1 := sealedOf_block (p := pl l1) (x := off - psum pl l1) (by omega) (by omega)
  have sl2 := sealedOf_block (p := pl l2) (x := off + a - psum pl l2) (by omega) (by omega)
  have sh1 := sealedOf_last (p := pl h1) (hp h1 b1)
  have ph1 := hs0 h1 b1
  have ph2 := hs0 h2 d1
  have f0 : off + (a + b) - psum pl h2 - 1 = off + a + b - psum pl h2 - 1 := by omega
  refine ⟨rfl, by rw [f0], ?_, ?_, ?_, ?_⟩
  · -- st1 ≤ st2
    by_cases c : l1 = l2
    · subst c; omega
    · have := smono (l1 + 1) l2 (by omega) (by omega)
      omega
  · by_cases c : h1 = h2
    · subst c; omega
    · have := smono (h1 + 1) h2 (by omega) (by omega)
      omega
  · rcases e4 with c | ⟨c, c'⟩
    · subst c; omega
    · subst c
      have : psum pl (h1 + 1) = off + a := c'.symm
      have z : off + a - psum pl h1 - 1 = pl h1 - 1 := by omega
      rw [z]; omega
  · rcases e4 with c | ⟨c, c'⟩
    · subst c; omega
    · subst c
      have z : off + a - psum pl h1 - 1 = pl h1 - 1 := by omega
      rw [z]; omega
end Pl
end Go.Proofs.Qxb6601507aMods
