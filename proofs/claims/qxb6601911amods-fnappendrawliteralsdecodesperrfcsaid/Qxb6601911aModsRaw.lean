import Derived.Test.Qxb6601911aModsLits
import Derived.Laws.BitsAllLaws
namespace Go.Proofs.Qxb6601911aMods
open Go.RowKit

def cellsOf (z : Nat → Int) (n : Nat) : List Value := (List.range n).map (fun i => .int .u8 (z i))
theorem cellsOf_len (z : Nat → Int) (n : Nat) : (cellsOf z n).length = n * 1 := by simp [cellsOf]
theorem cellsOf_at {z : Nat → Int} {n j : Nat} {u : Value} (h : (cellsOf z n)[j]? = some u) : j < n ∧ u = .int .u8 (z j) := by
  have hj : j < (cellsOf z n).length := (List.getElem?_eq_some_iff.1 h).1
  rw [cellsOf_len] at hj
  refine ⟨by omega, ?_⟩
  simp [cellsOf, List.getElem?_range (show j < n by omega)] at h
  exact h.symm
theorem cellsOf_one (z : Nat → Int) (n : Nat) : ∀ u ∈ cellsOf z n, u.oneCell' = true := by
  intro u hu
  simp [cellsOf] at hu
  obtain ⟨_, _, rfl⟩ := hu
  rfl
theorem Made.holds {w : World} {b n : Nat} {ao : Option Addr} {z : Nat → Int} (h : Made w b ao n z) : ∀ x, ao = some x → ∀ j u, (cellsOf z n)[j]? = some u → w.cell? (x.add j) = some u := by
  intro x hx j u hu
  obtain ⟨hj, rfl⟩ := cellsOf_at hu
  rcases h with ⟨h, _⟩ | ⟨h1, _, h3⟩
  · rw [h] at hx; cases hx
  · rw [h1] at hx
    cases hx
    rw [show (⟨b, 0, none⟩ : Addr).add j = ⟨b, j, none⟩ from by unfold Addr.add; split <;> simp_all]
    exact h3 j hj
theorem news_at {w : World} {B : Nat} (cs : Array Value) (t : TypeId) (l : List Value) (hB : w.heap.size = B) (hl : cs.toList = l := by rfl) : ∀ j u, l[j]? = some u → (w.alloc (.cells cs t)).cell? ((⟨B, 0, none⟩ : Addr).add j) = some u := by
  subst hB hl
  exact fun j u hu => World.news_of_block (heap_alloc_new _ _) j u hu
theorem Made.alloc {w : World} {b n : Nat} {ao : Option Addr} {z : Nat → Int} (h : Made w b ao n z) (o : Obj) : Made (w.alloc o) b ao n z := by
  rcases h with h | ⟨h1, h2, h3⟩
  · exact .inl h
  · refine .inr ⟨h1, by simp; omega, fun i hi => ?_⟩
    rw [World.cell?_alloc_lt _ _ _ h2]; exact h3 i hi

theorem made_none {w : World} {b n : Nat} {ao : Option Addr} {z : Nat → Int} (h : Made w b ao n z) : ao = none → n = 0 ∧ n = 0 := by
  intro e
  rcases h with ⟨_, h⟩ | ⟨h1, _⟩
  · exact ⟨h, h⟩
  · rw [e] at h1; cases h1
theorem Made.grown {w w' : World} {b n : Nat} {ao : Option Addr} {z : Nat → Int} {row : Option Nat} (h : Made w b ao n z) (hg : w.grownBy w' row) (hr : some b ≠ row) : Made w' b ao n z := by
  rcases h with h | ⟨h1, h2, h3⟩
  · exact .inl h
  · exact .inr ⟨h1, Nat.lt_of_lt_of_le h2 hg.size, fun i hi => hg.cell (h3 i hi) (by simpa using hr)⟩
/-- what appendRawLiterals hands back -/
def RawOut (w : World) (B : Nat) (w' : World) (e : Ending) (T : Nat) (xs : List Value) : Prop :=
  ∃ g cap, e = .returned (.slice (some ⟨g, 0, none⟩) T cap) ∧ B ≤ g ∧ w'.ownsRow B 5 1 (.slice (some ⟨g, 0, none⟩) T cap) T xs ∧ Below B w w'

theorem nat_or_add (k a b : Nat) (ha : a < 2 ^ k) : a ||| b * 2 ^ k = a + b * 2 ^ k := by
  rw [Nat.or_comm, Nat.mul_comm, ← Nat.two_pow_add_eq_or_of_lt ha b, Nat.add_comm]
theorem or4 (n : Nat) (h : n < 1048576) : bits .or .u32 4 ((n : Int) * 16) = (n : Int) * 16 + 4 := by
  have e : (n : Int) * 16 = ((n * 2 ^ 4 : Nat) : Int) := by omega
  rw [e, show (4 : Int) = ((4 : Nat) : Int) from rfl, u32_or_nat 4 _ (by omega) (by omega), nat_or_add 4 4 n (by omega)]
  omega
theorem or12 (n : Nat) (h : n < 1048576) : bits .or .u32 12 ((n : Int) * 16) = (n : Int) * 16 + 12 := by
  have e : (n : Int) * 16 = ((n * 2 ^ 4 : Nat) : Int) := by omega
  rw [e, show (12 : Int) = ((12 : Nat) : Int) from rfl, u32_or_nat 12 _ (by omega) (by omega), nat_or_add 4 12 n (by omega)]
  omega
theorem own_mono {w : World} {B B' e s n : Nat} {v : Value} {xs : List Value} (h : w.ownsRow B e s v n xs) (hB : B' ≤ B) : w.ownsRow B' e s v n xs := by
  refine ⟨h.1, ?_⟩
  rcases h.2 with h | ⟨g, cap, cur, h1, h2, h3⟩
  · exact .inl h
  · exact .inr ⟨g, cap, cur, h1, by omega, h3⟩
/-- 'append' onto an owned slice that holds something: the value written out; m may be 0 -/
theorem wpList_append_lies0 {P : Program} (w : World) {ops : Array Oper} {rest : List Oper} {o : Oper} {a : Act} {Q : Exit → Act → World → Prop} (hgd : o.guard = none) (s x : Operand) (t : TypeId)
    (ho : o.op = .call { callee := .builtin .append, args := #[s, x], argTypes := #[t, t] })
    (base : Nat) (e : TypeId) (i : TypeInfo) (z : Value) (size bytes : Nat) (ht : P.underlying t = some (.slice e)) (hi : P.info? e = some i) (hz : i.zero = some z)
    (hsize : i.size = size) (hby : i.bytes = bytes) (hzs : z.cells.size = size) (hsz : 0 < size)
    (v : Value) (n : Nat) (xs : List Value) (hs : a.eval s = v) (hown : w.ownsRow base e size v n xs)
    (ad : Addr) (m c : Nat) (news : List Value) (hx : a.eval x = .slice (some ad) m c) (hl : news.length = m * size) (hnews : ∀ j u, news[j]? = some u → w.cell? (ad.add j) = some u) (h1 : ∀ u ∈ news, u.oneCell' = true)
    (h63 : n + m ≤ maxLen) (hbytes : (n + m) * bytes ≤ 140737488355328) (hbase : base ≤ w.heap.size) (hn : 0 < n)
    (h : ∀ g cap w', w'.ownsRow base e size (.slice (some ⟨g, 0, none⟩) (n + m) cap) (n + m) (xs ++ news) → w.grownBy w' v.ownBlock → base ≤ g → wpList P ops Q rest (a.put o.dst (.slice (some ⟨g, 0, none⟩) (n + m) cap)) w') : wpList P ops Q (o :: rest) a w := by
  refine wpList_append_own w hgd s x t ho base e i z size bytes ht hi hz hsize hby hzs hsz v n xs hs hown ad m c news hx hl hnews h1 h63 hbytes hbase ?_
  intro v' w' h2 h3 _
  obtain ⟨g, cap, rfl, hg, _⟩ := h2.form (by omega)
  exact h g cap w' h2 h3 hg

set_option maxHeartbeats 1000000 in
set_option maxRecDepth 100000 in
theorem append23_nil (ad : Option Addr) (d bd : Nat) (zd : Nat → Int) (w : World) (h1 : Made w bd ad d zd) (hb : d ≤ 1048576) :
    Calls Trym.prog 23 #[.slice ad d d, .slice none 0 0] w fun e w' => RawOut w w.heap.size w' e (d + 1) (cellsOf zd d ++ [.int .u8 0]) := by
  obtain ⟨i0, hi, hz0, hz1, hz2⟩ := info_parts Trym.info5
  have HI := hd (And.intro hi (And.intro hz0 (And.intro hz1 hz2)))
  have H1 := hd h1
  clear hi hz0 hz1 hz2 h1
  go_enter Trym.func23, Trym.ntmps23
  go_wp2_with (first | (at_builtin; refine wpList_append_grows _ rfl (.tmp 27) (.tmp 31) 22 rfl 5 i0 (.int .u8 0) 1 1 Trym.underlying22 HI.out.1 HI.out.2.1 HI.out.2.2.1 HI.out.2.2.2 rfl (by omega) ad d d (cellsOf zd d) (by rfl) (made_none H1.out) (cellsOf_len zd d) ?holds ⟨_, 0, none⟩ 1 1 [.int .u8 0] (by rfl) rfl ?hnews ?hone (by omega) ?h63 (by omega) ?_))
  case holds => exact (H1.out.alloc _).holds
  case hnews => exact news_at _ _ _ rfl
  case hone => intro u hu; simp at hu; first | (subst hu; rfl) | (rcases hu with rfl | rfl <;> rfl) | (rcases hu with rfl | rfl | rfl <;> rfl)
  case h63 => unfold maxLen; omega
  intro v' w1 hown1 hgrow
  obtain ⟨g, cap, hv, hg0, hg1⟩ := hown1.form (by omega)
  have hb1 : Below w.heap.size w w1 := Below.grown (bel_alloc (Below.refl _ _) _) hgrow (by simp) (by intro k hk; cases hk)
  have HB1 := hd hb1
  have hsz := hb1.size
  rw [hv] at hown1
  have HO := hd hown1
  clear hown1 hgrow hb1
  rw [hv]
  clear hv
  go_wp2_with (at_builtin; refine wpList_append_own_none rfl (.tmp 46) (.tmp 47) 22 rfl (w.heap.size + 1) 5 i0 1 Trym.underlying22 HI.out.1 _ _ _ (by rfl) HO.out (by rfl) ?_)
  go_ret
  exact ⟨g, cap, rfl, by omega, own_mono HO.out (by omega), HB1.out⟩

set_option maxHeartbeats 1000000 in
set_option maxRecDepth 100000 in
theorem append23_1 (ad : Option Addr) (d bd : Nat) (zd : Nat → Int) (n bl : Nat) (zl : Nat → Int) (w : World) (h1 : Made w bd ad d zd) (h2 : Made w bl (some ⟨bl, 0, none⟩) n zl) (hb : d + n ≤ 1048576) (_hn0 : 0 ≤ n) (hn : n < 32) :
    Calls Trym.prog 23 #[.slice ad d d, .slice (some ⟨bl, 0, none⟩) n n] w fun e w' => RawOut w w.heap.size w' e (d + 1 + n) (cellsOf zd d ++ ([.int .u8 ((n : Int) * 8)] ++ cellsOf zl n)) := by
  obtain ⟨i0, hi, hz0, hz1, hz2⟩ := info_parts Trym.info5
  have HI := hd (And.intro hi (And.intro hz0 (And.intro hz1 hz2)))
  have H1 := hd h1
  have H2 := hd h2
  have hbl : bl < w.heap.size := by
    rcases h2 with h | h
    · cases h.1
    · exact h.2.1
  clear h2
  clear hi hz0 hz1 hz2 h1
  go_enter Trym.func23, Trym.ntmps23
  go_wp2_with (first | (at_builtin; refine wpList_append_grows _ rfl (.tmp 27) (.tmp 31) 22 rfl 5 i0 (.int .u8 0) 1 1 Trym.underlying22 HI.out.1 HI.out.2.1 HI.out.2.2.1 HI.out.2.2.2 rfl (by omega) ad d d (cellsOf zd d) (by rfl) (made_none H1.out) (cellsOf_len zd d) ?holds ⟨_, 0, none⟩ 1 1 [.int .u8 ((n : Int) * 8)] (by rfl) rfl ?hnews ?hone (by omega) ?h63 (by omega) ?_))
  case holds => exact (H1.out.alloc _).holds
  case hnews => exact news_at _ _ _ rfl
  case hone => intro u hu; simp at hu; first | (subst hu; rfl) | (rcases hu with rfl | rfl <;> rfl) | (rcases hu with rfl | rfl | rfl <;> rfl)
  case h63 => unfold maxLen; omega
  intro v' w1 hown1 hgrow
  obtain ⟨g, cap, hv, hg0, hg1⟩ := hown1.form (by omega)
  have hb1 : Below w.heap.size w w1 := Below.grown (bel_alloc (Below.refl _ _) _) hgrow (by simp) (by intro k hk; cases hk)
  have HB1 := hd hb1
  have hsz := hb1.size
  have HM := hd ((H2.out.alloc _).grown hgrow (by simp))
  rw [hv] at hown1
  have HO := hd hown1
  clear hown1 hgrow hb1
  rw [hv]
  clear hv
  go_wp2_with (at_builtin; refine wpList_append_lies0 _ rfl (.tmp 46) (.tmp 47) 22 rfl (w.heap.size + 1) 5 i0 (.int .u8 0) 1 1 Trym.underlying22 HI.out.1 HI.out.2.1 HI.out.2.2.1 HI.out.2.2.2 rfl (by omega) _ _ _ (by rfl) HO.out ⟨bl, 0, none⟩ n n (cellsOf zl n) (by rfl) (cellsOf_len zl n) (HM.out.holds _ rfl) (cellsOf_one zl n) ?h63b (by omega) ?hbase (by omega) ?_)
  case h63b => unfold maxLen; omega
  case hbase => omega
  intro g2 cap2 w2 hown2 hgrow2 hg2
  have hb2 : Below w.heap.size w w2 := Below.grown HB1.out hgrow2 (by omega) (by intro k hk; simp [Value.ownBlock] at hk; omega)
  have HO2 := hd hown2
  have HB2 := hd hb2
  clear hown2 hgrow2 hb2
  go_wp2
  go_ret
  exact ⟨g2, cap2, rfl, by omega, own_mono HO2.out (by omega), HB2.out⟩

set_option maxHeartbeats 1000000 in
set_option maxRecDepth 100000 in
theorem append23_2 (ad : Option Addr) (d bd : Nat) (zd : Nat → Int) (n bl : Nat) (zl : Nat → Int) (w : World) (h1 : Made w bd ad d zd) (h2 : Made w bl (some ⟨bl, 0, none⟩) n zl) (hb : d + n ≤ 1048576) (hn0 : 32 ≤ n) (hn : n < 4096) :
    Calls Trym.prog 23 #[.slice ad d d, .slice (some ⟨bl, 0, none⟩) n n] w fun e w' => RawOut w w.heap.size w' e (d + 2 + n) (cellsOf zd d ++ ([.int .u8 (((n : Int) * 16 + 4) % 256), .int .u8 ((n : Int) / 16)] ++ cellsOf zl n)) := by
  obtain ⟨i0, hi, hz0, hz1, hz2⟩ := info_parts Trym.info5
  have HI := hd (And.intro hi (And.intro hz0 (And.intro hz1 hz2)))
  have H1 := hd h1
  have H2 := hd h2
  have hbl : bl < w.heap.size := by
    rcases h2 with h | h
    · cases h.1
    · exact h.2.1
  clear h2
  have hor := or4 n (by omega)
  clear hi hz0 hz1 hz2 h1
  go_enter Trym.func23, Trym.ntmps23
  go_wp2_with (first | (at_builtin; refine wpList_append_grows _ rfl (.tmp 36) (.tmp 44) 22 rfl 5 i0 (.int .u8 0) 1 1 Trym.underlying22 HI.out.1 HI.out.2.1 HI.out.2.2.1 HI.out.2.2.2 rfl (by omega) ad d d (cellsOf zd d) (by rfl) (made_none H1.out) (cellsOf_len zd d) ?holds ⟨_, 0, none⟩ 2 2 [.int .u8 (((n : Int) * 16 + 4) % 256), .int .u8 ((n : Int) / 16)] (by rfl) rfl ?hnews ?hone (by omega) ?h63 (by omega) ?_))
  case holds => exact (H1.out.alloc _).holds
  case hnews => exact news_at _ _ _ rfl
  case hone => intro u hu; simp at hu; first | (subst hu; rfl) | (rcases hu with rfl | rfl <;> rfl) | (rcases hu with rfl | rfl | rfl <;> rfl)
  case h63 => unfold maxLen; omega
  intro v' w1 hown1 hgrow
  obtain ⟨g, cap, hv, hg0, hg1⟩ := hown1.form (by omega)
  have hb1 : Below w.heap.size w w1 := Below.grown (bel_alloc (Below.refl _ _) _) hgrow (by simp) (by intro k hk; cases hk)
  have HB1 := hd hb1
  have hsz := hb1.size
  have HM := hd ((H2.out.alloc _).grown hgrow (by simp))
  rw [hv] at hown1
  have HO := hd hown1
  clear hown1 hgrow hb1
  rw [hv]
  clear hv
  go_wp2_with (at_builtin; refine wpList_append_lies0 _ rfl (.tmp 46) (.tmp 47) 22 rfl (w.heap.size + 1) 5 i0 (.int .u8 0) 1 1 Trym.underlying22 HI.out.1 HI.out.2.1 HI.out.2.2.1 HI.out.2.2.2 rfl (by omega) _ _ _ (by rfl) HO.out ⟨bl, 0, none⟩ n n (cellsOf zl n) (by rfl) (cellsOf_len zl n) (HM.out.holds _ rfl) (cellsOf_one zl n) ?h63b (by omega) ?hbase (by omega) ?_)
  case h63b => unfold maxLen; omega
  case hbase => omega
  intro g2 cap2 w2 hown2 hgrow2 hg2
  have hb2 : Below w.heap.size w w2 := Below.grown HB1.out hgrow2 (by omega) (by intro k hk; simp [Value.ownBlock] at hk; omega)
  have HO2 := hd hown2
  have HB2 := hd hb2
  clear hown2 hgrow2 hb2
  go_wp2
  go_ret
  exact ⟨g2, cap2, rfl, by omega, own_mono HO2.out (by omega), HB2.out⟩

set_option maxHeartbeats 1000000 in
set_option maxRecDepth 100000 in
theorem append23_3 (ad : Option Addr) (d bd : Nat) (zd : Nat → Int) (n bl : Nat) (zl : Nat → Int) (w : World) (h1 : Made w bd ad d zd) (h2 : Made w bl (some ⟨bl, 0, none⟩) n zl) (hb : d + n ≤ 1048576) (hn0 : 4096 ≤ n) (hn : n < 1048576) :
    Calls Trym.prog 23 #[.slice ad d d, .slice (some ⟨bl, 0, none⟩) n n] w fun e w' => RawOut w w.heap.size w' e (d + 3 + n) (cellsOf zd d ++ ([.int .u8 (((n : Int) * 16 + 12) % 256), .int .u8 (((n : Int) * 16 + 12) / 256 % 256), .int .u8 (((n : Int) * 16 + 12) / 65536)] ++ cellsOf zl n)) := by
  obtain ⟨i0, hi, hz0, hz1, hz2⟩ := info_parts Trym.info5
  have HI := hd (And.intro hi (And.intro hz0 (And.intro hz1 hz2)))
  have H1 := hd h1
  have H2 := hd h2
  have hbl : bl < w.heap.size := by
    rcases h2 with h | h
    · cases h.1
    · exact h.2.1
  clear h2
  have hor := or12 n (by omega)
  clear hi hz0 hz1 hz2 h1
  go_enter Trym.func23, Trym.ntmps23
  go_wp2_with (first | (at_builtin; refine wpList_append_grows _ rfl (.tmp 13) (.tmp 22) 22 rfl 5 i0 (.int .u8 0) 1 1 Trym.underlying22 HI.out.1 HI.out.2.1 HI.out.2.2.1 HI.out.2.2.2 rfl (by omega) ad d d (cellsOf zd d) (by rfl) (made_none H1.out) (cellsOf_len zd d) ?holds ⟨_, 0, none⟩ 3 3 [.int .u8 (((n : Int) * 16 + 12) % 256), .int .u8 (((n : Int) * 16 + 12) / 256 % 256), .int .u8 (((n : Int) * 16 + 12) / 65536)] (by rfl) rfl ?hnews ?hone (by omega) ?h63 (by omega) ?_))
  case holds => exact (H1.out.alloc _).holds
  case hnews => exact news_at _ _ _ rfl
  case hone => intro u hu; simp at hu; first | (subst hu; rfl) | (rcases hu with rfl | rfl <;> rfl) | (rcases hu with rfl | rfl | rfl <;> rfl)
  case h63 => unfold maxLen; omega
  intro v' w1 hown1 hgrow
  obtain ⟨g, cap, hv, hg0, hg1⟩ := hown1.form (by omega)
  have hb1 : Below w.heap.size w w1 := Below.grown (bel_alloc (Below.refl _ _) _) hgrow (by simp) (by intro k hk; cases hk)
  have HB1 := hd hb1
  have hsz := hb1.size
  have HM := hd ((H2.out.alloc _).grown hgrow (by simp))
  rw [hv] at hown1
  have HO := hd hown1
  clear hown1 hgrow hb1
  rw [hv]
  clear hv
  go_wp2_with (at_builtin; refine wpList_append_lies0 _ rfl (.tmp 46) (.tmp 47) 22 rfl (w.heap.size + 1) 5 i0 (.int .u8 0) 1 1 Trym.underlying22 HI.out.1 HI.out.2.1 HI.out.2.2.1 HI.out.2.2.2 rfl (by omega) _ _ _ (by rfl) HO.out ⟨bl, 0, none⟩ n n (cellsOf zl n) (by rfl) (cellsOf_len zl n) (HM.out.holds _ rfl) (cellsOf_one zl n) ?h63b (by omega) ?hbase (by omega) ?_)
  case h63b => unfold maxLen; omega
  case hbase => omega
  intro g2 cap2 w2 hown2 hgrow2 hg2
  have hb2 : Below w.heap.size w w2 := Below.grown HB1.out hgrow2 (by omega) (by intro k hk; simp [Value.ownBlock] at hk; omega)
  have HO2 := hd hown2
  have HB2 := hd hb2
  clear hown2 hgrow2 hb2
  go_wp2
  go_ret
  exact ⟨g2, cap2, rfl, by omega, own_mono HO2.out (by omega), HB2.out⟩

end Go.Proofs.Qxb6601911aMods
