import Derived.Test.Qxb6601507aModsSpans
import Derived.Test.Qxb6601507aModsBits
namespace Go.Proofs.Qxb6601507aMods
open Go.RowKit Pl

/-- a made row of whatever element, by its number of cells: the content is not said -/
theorem rowIs_any (w : World) (c : Array Value) (t : TypeId) (N : Nat) (h : c.size = N) : ∃ f, (w.alloc (.cells c t)).rowIs w.heap.size t N f :=
  ⟨fun i => c.getD i undef, by
    subst h
    refine World.rowIs_alloc w c t _ (fun i hi => ?_)
    simp [hi]⟩
theorem run_make_any {P : Program} (t e : TypeId) (size bytes : Nat) (z : Value) (ht : P.underlying t = some (.slice e)) (hinfo : (P.info? e).map (fun i => (i.zero, i.size, i.bytes)) = some (some z, size, bytes))
    (n : Nat) (hbytes : bytes * n ≤ 281474976710656) (h63 : n ≤ 9223372036854775807) (w : World) :
    (Instr.makeSlice t (.int .i64 (n : Int)) (.int .i64 (n : Int))).run P w = .ok (.slice (some ⟨w.heap.size, 0, none⟩) n n) (w.alloc (.cells (madeCells z.cells (n * size)) e)) := by
  obtain ⟨i, hi, hzz⟩ := Option.map_eq_some_iff.1 hinfo
  simp only [Prod.mk.injEq] at hzz
  obtain ⟨hz, rfl, rfl⟩ := hzz
  have := run_make (P := P) w t e i z ht hi hz .i64 .i64 (n : Int) (n : Int) (by omega) (by omega) (by
    have h : ((i.bytes * n : Nat) : Int) ≤ 281474976710656 := by omega
    simpa using h) (by omega)
  simpa using this

def zKey : Value := .agg (Array.replicate 32 (.int .u8 0))
theorem Trym.info57 : (Trym.prog.info? 57).map (fun i => (i.zero, i.size, i.bytes)) = some (some zKey, 32, 32) := by kernel_rfl
theorem Trym.info61 : (Trym.prog.info? 61).map (fun i => (i.zero, i.size, i.bytes)) = some (some (.agg #[.pointer none, .int .i64 0, .int .i64 0]), 3, 24) := by kernel_rfl
def zOut : Value := .agg #[.int .i64 0, .int .i64 0, .int .i64 0, .int .i64 0, .int .i64 0, .int .i64 0]
theorem Trym.info45 : (Trym.prog.info? 45).map (fun i => (i.zero, i.size, i.bytes)) = some (some zOut, 6, 48) := by kernel_rfl

def keysObj (n : Nat) : Obj := .cells (madeCells zKey.cells (n * 32)) 57
def layObj (n : Nat) : Obj := .cells (madeCells (Value.agg #[.pointer none, .int .i64 0, .int .i64 0]).cells (n * 3)) 61
def outObj (n : Nat) : Obj := .cells (madeCells zOut.cells (n * 6)) 45

theorem make53 (n : Nat) (hn : n ≤ 1048576) (w : World) : (Instr.makeSlice 53 (.int .i64 (n : Int)) (.int .i64 (n : Int))).run Trym.prog w = .ok (.slice (some ⟨w.heap.size, 0, none⟩) n n) (w.alloc (keysObj n)) :=
  run_make_any 53 57 32 32 _ Trym.underlying53 Trym.info57 n (by omega) (by omega) w
theorem make55 (n : Nat) (hn : n ≤ 1048576) (w : World) : (Instr.makeSlice 55 (.int .i64 (n : Int)) (.int .i64 (n : Int))).run Trym.prog w = .ok (.slice (some ⟨w.heap.size, 0, none⟩) n n) (w.alloc (layObj n)) :=
  run_make_any 55 61 3 24 _ Trym.underlying55 Trym.info61 n (by omega) (by omega) w
theorem make40 (n : Nat) (hn : n ≤ 1048576) (w : World) : (Instr.makeSlice 40 (.int .i64 (n : Int)) (.int .i64 (n : Int))).run Trym.prog w = .ok (.slice (some ⟨w.heap.size, 0, none⟩) n n) (w.alloc (outObj n)) :=
  run_make_any 40 45 6 48 _ Trym.underlying40 Trym.info45 n (by omega) (by omega) w
theorem keys_row (w : World) (n : Nat) : ∃ f, (w.alloc (keysObj n)).rowIs w.heap.size 57 (n * 32) f := rowIs_any w _ 57 _ (size_madeCells _ _)
theorem lay_row (w : World) (n : Nat) : ∃ f, (w.alloc (layObj n)).rowIs w.heap.size 61 (n * 3) f := rowIs_any w _ 61 _ (size_madeCells _ _)
theorem out_row (w : World) (n : Nat) : ∃ f, (w.alloc (outObj n)).rowIs w.heap.size 45 (n * 6) f := rowIs_any w _ 45 _ (size_madeCells _ _)

/-- the first k keys hold their numbers -/
def keysOK (f : Nat → Value) (k : Nat) : Prop := ∀ i, i < k → f (i * 32) = .int .u8 ((i : Int) % 256) ∧ f (i * 32 + 1) = .int .u8 ((i : Int) / 256 % 256) ∧ f (i * 32 + 2) = .int .u8 ((i : Int) / 65536) ∧ f (i * 32 + 3) = .int .u8 ((i : Int) / 16777216)
def layOK (bk : Nat) (se pl : Nat → Int) (f : Nat → Value) (k : Nat) : Prop := ∀ i, i < k → f (i * 3) = .pointer (some ⟨bk, i * 32, none⟩) ∧ f (i * 3 + 1) = .int .i64 (se i) ∧ f (i * 3 + 2) = .int .i64 (pl i)

def keySet (f : Nat → Value) (k : Nat) : Nat → Value := fun j => if j = k * 32 + 3 then .int .u8 ((k : Int) / 16777216) else if j = k * 32 + 2 then .int .u8 ((k : Int) / 65536) else if j = k * 32 + 1 then .int .u8 ((k : Int) / 256 % 256) else if j = k * 32 then .int .u8 ((k : Int) % 256) else f j
theorem keySet_ok {f : Nat → Value} {k : Nat} (h : keysOK f k) : keysOK (keySet f k) (k + 1) := by
  intro i hi
  by_cases e : i = k
  · subst e
    refine ⟨?_, ?_, ?_, ?_⟩ <;> simp [keySet]
  · have := h i (by omega)
    refine ⟨?_, ?_, ?_, ?_⟩
    · rw [keySet, if_neg (by omega), if_neg (by omega), if_neg (by omega), if_neg (by omega)]; exact this.1
    · rw [keySet, if_neg (by omega), if_neg (by omega), if_neg (by omega), if_neg (by omega)]; exact this.2.1
    · rw [keySet, if_neg (by omega), if_neg (by omega), if_neg (by omega), if_neg (by omega)]; exact this.2.2.1
    · rw [keySet, if_neg (by omega), if_neg (by omega), if_neg (by omega), if_neg (by omega)]; exact this.2.2.2
theorem keySet_row {w : World} {b N : Nat} {f : Nat → Value} (k : Nat) (h : w.rowIs b 57 N f) :
    ((((w.setCell ⟨b, k * 32, none⟩ (.int .u8 ((k : Int) % 256))).setCell ⟨b, k * 32 + 1, none⟩ (.int .u8 ((k : Int) / 256 % 256))).setCell ⟨b, k * 32 + 2, none⟩ (.int .u8 ((k : Int) / 65536))).setCell ⟨b, k * 32 + 3, none⟩ (.int .u8 ((k : Int) / 16777216))).rowIs b 57 N (keySet f k) :=
  (((h.set _ _).set _ _).set _ _).set _ _
def laySet (bk : Nat) (se pl : Nat → Int) (f : Nat → Value) (k : Nat) : Nat → Value := fun j => if j = k * 3 + 2 then .int .i64 (pl k) else if j = k * 3 + 1 then .int .i64 (se k) else if j = k * 3 then .pointer (some ⟨bk, k * 32, none⟩) else f j
theorem laySet_ok {bk : Nat} {se pl : Nat → Int} {f : Nat → Value} {k : Nat} (h : layOK bk se pl f k) : layOK bk se pl (laySet bk se pl f k) (k + 1) := by
  intro i hi
  by_cases e : i = k
  · subst e
    refine ⟨?_, ?_, ?_⟩ <;> simp [laySet]
  · have := h i (by omega)
    refine ⟨?_, ?_, ?_⟩
    · rw [laySet, if_neg (by omega), if_neg (by omega), if_neg (by omega)]; exact this.1
    · rw [laySet, if_neg (by omega), if_neg (by omega), if_neg (by omega)]; exact this.2.1
    · rw [laySet, if_neg (by omega), if_neg (by omega), if_neg (by omega)]; exact this.2.2
theorem laySet_row {w : World} {b N bk : Nat} {se pl : Nat → Int} {f : Nat → Value} (k : Nat) (h : w.rowIs b 61 N f) :
    (((w.setCell ⟨b, k * 3, none⟩ (.pointer (some ⟨bk, k * 32, none⟩))).setCell ⟨b, k * 3 + 1, none⟩ (.int .i64 (se k))).setCell ⟨b, k * 3 + 2, none⟩ (.int .i64 (pl k))).rowIs b 61 N (laySet bk se pl f k) :=
  ((h.set _ _).set _ _).set _ _

/-- the cell of an element's field -/
theorem allCells_at (bk : Nat) (se pl : Nat → Int) (off ln : Int) (c : Nat) (hc : c < 6) : ∀ (l : List Nat) (j : Nat) (_hj : j < l.length), (allCells bk se pl off ln l)[j * 6 + c]? = (spanCells bk se pl off ln (l.getD j 0))[c]?
  | [], j, hj => by simp at hj
  | x :: l, 0, _ => by
    simp only [allCells, List.flatMap_cons, List.getD_cons_zero, Nat.zero_mul, Nat.zero_add]
    rw [List.getElem?_append_left (by simp [spanCells]; omega)]
  | x :: l, j + 1, hj => by
    simp only [allCells, List.flatMap_cons, List.getD_cons_succ]
    rw [List.getElem?_append_right (by simp [spanCells]; omega)]
    have e : (j + 1) * 6 + c - (spanCells bk se pl off ln x).length = j * 6 + c := by simp [spanCells]; omega
    rw [e]
    exact allCells_at bk se pl off ln c hc l j (by simpa using hj)

/-- what spans hands back, by its cells -/
theorem spans_cells (bl bk n : Nat) (se pl : Nat → Int) (off ln : Int) (w : World) (hn : n ≤ 131072)
    (hc0 : ∀ i, i < n → w.cell? ⟨bl, i * 3, none⟩ = some (.pointer (some ⟨bk, i * 32, none⟩)))
    (hc1 : ∀ i, i < n → w.cell? ⟨bl, i * 3 + 1, none⟩ = some (.int .i64 (se i)))
    (hc2 : ∀ i, i < n → w.cell? ⟨bl, i * 3 + 2, none⟩ = some (.int .i64 (pl i)))
    (hp : ∀ i, i < n → 0 ≤ pl i) (hs : ∀ i, i < n → 0 ≤ se i) (hpt : psum pl n ≤ 2305843009213693952) (hst : psum se n ≤ 4611686018427387904)
    (h0 : 0 ≤ off) (h1 : 0 ≤ ln) (h2 : off + ln ≤ psum pl n) :
    Calls Trym.prog 32 #[.slice (some ⟨bl, 0, none⟩) n n, .int .i64 off, .int .i64 ln] w fun e w' => ∃ (ao : Option Addr) (cap : Nat),
      e = .returned (.tuple #[.slice ao (inc pl off ln n).length cap, .int .i64 (startOf se pl off ln n), .int .i64 (endOf se pl off ln n)]) ∧
      ((inc pl off ln n).length = 0 ∨ ∃ g, ao = some ⟨g, 0, none⟩ ∧ g < w'.heap.size ∧ ∀ j, j < (inc pl off ln n).length → ∀ c, c < 6 → w'.cell? ⟨g, j * 6 + c, none⟩ = (spanCells bk se pl off ln ((inc pl off ln n).getD j 0))[c]?) ∧ Below w.heap.size w w' := by
  refine (spans_any bl bk n se pl off ln w hn hc0 hc1 hc2 hp hs hpt hst h0 h1 h2).mono ?_
  rintro e w' ⟨v, rfl, hown, hb⟩
  have hown' := hown
  rcases hown.2 with ⟨rfl, hz⟩ | ⟨g, cap, cur, rfl, _, hgg, _⟩
  · refine ⟨none, 0, ?_, .inl hz, hb⟩
    rw [hz]
  · refine ⟨_, cap, rfl, .inr ⟨g, rfl, (Array.getElem?_eq_some_iff.1 hgg).1, fun j hj c hc => ?_⟩, hb⟩
    rw [hown'.cellAt (j * 6 + c) (by omega), allCells_at bk se pl off ln c hc _ j hj]

def outOK (se pl : Nat → Int) (off ln : Int) (l : List Nat) (f : Nat → Value) (k : Nat) : Prop := ∀ j, j < k → f (j * 6) = .int .i64 (l.getD j 0 : Nat) ∧ f (j * 6 + 1) = .int .i64 (se (l.getD j 0)) ∧ f (j * 6 + 2) = .int .i64 (firstOf pl off ln (l.getD j 0)) ∧
  f (j * 6 + 3) = .int .i64 (lastOf pl off ln (l.getD j 0)) ∧ f (j * 6 + 4) = .int .i64 (skipOf pl off ln (l.getD j 0)) ∧ f (j * 6 + 5) = .int .i64 (lenOf pl off ln (l.getD j 0))

def outSet (a b c d e g : Value) (f : Nat → Value) (k : Nat) : Nat → Value := fun j => if j = k * 6 + 5 then g else if j = k * 6 + 4 then e else if j = k * 6 + 3 then d else if j = k * 6 + 2 then c else if j = k * 6 + 1 then b else if j = k * 6 then a else f j
theorem outSet_row {w : World} {b N : Nat} {f : Nat → Value} (x0 x1 x2 x3 x4 x5 : Value) (k : Nat) (h : w.rowIs b 45 N f) :
    ((((((w.setCell ⟨b, k * 6, none⟩ x0).setCell ⟨b, k * 6 + 1, none⟩ x1).setCell ⟨b, k * 6 + 2, none⟩ x2).setCell ⟨b, k * 6 + 3, none⟩ x3).setCell ⟨b, k * 6 + 4, none⟩ x4).setCell ⟨b, k * 6 + 5, none⟩ x5).rowIs b 45 N (outSet x0 x1 x2 x3 x4 x5 f k) :=
  (((((h.set _ _).set _ _).set _ _).set _ _).set _ _).set _ _
theorem outSet_ok {se pl : Nat → Int} {off ln : Int} {l : List Nat} {f : Nat → Value} {k i : Nat} {x : Int} (h : outOK se pl off ln l f k) (hi : i = l.getD k 0) (hx : x = (i : Int)) :
    outOK se pl off ln l (outSet (.int .i64 x) (.int .i64 (se i)) (.int .i64 (firstOf pl off ln i)) (.int .i64 (lastOf pl off ln i)) (.int .i64 (skipOf pl off ln i)) (.int .i64 (lenOf pl off ln i)) f k) (k + 1) := by
  intro j hj
  by_cases e : j = k
  · subst e
    rw [← hi, hx]
    refine ⟨?_, ?_, ?_, ?_, ?_, ?_⟩ <;> simp [outSet]
  · have := h j (by omega)
    refine ⟨?_, ?_, ?_, ?_, ?_, ?_⟩
    · rw [outSet, if_neg (by omega), if_neg (by omega), if_neg (by omega), if_neg (by omega), if_neg (by omega), if_neg (by omega)]; exact this.1
    · rw [outSet, if_neg (by omega), if_neg (by omega), if_neg (by omega), if_neg (by omega), if_neg (by omega), if_neg (by omega)]; exact this.2.1
    · rw [outSet, if_neg (by omega), if_neg (by omega), if_neg (by omega), if_neg (by omega), if_neg (by omega), if_neg (by omega)]; exact this.2.2.1
    · rw [outSet, if_neg (by omega), if_neg (by omega), if_neg (by omega), if_neg (by omega), if_neg (by omega), if_neg (by omega)]; exact this.2.2.2.1
    · rw [outSet, if_neg (by omega), if_neg (by omega), if_neg (by omega), if_neg (by omega), if_neg (by omega), if_neg (by omega)]; exact this.2.2.2.2.1
    · rw [outSet, if_neg (by omega), if_neg (by omega), if_neg (by omega), if_neg (by omega), if_neg (by omega), if_neg (by omega)]; exact this.2.2.2.2.2

/-- what ZZSpansB1 hands back: the spans of the parts that are met -/
def OutAt (w : World) (bo : Nat) (se pl : Nat → Int) (off ln : Int) (l : List Nat) : Prop := ∀ j, j < l.length →
  w.cell? ⟨bo, j * 6, none⟩ = some (.int .i64 (l.getD j 0 : Nat)) ∧ w.cell? ⟨bo, j * 6 + 1, none⟩ = some (.int .i64 (se (l.getD j 0))) ∧ w.cell? ⟨bo, j * 6 + 2, none⟩ = some (.int .i64 (firstOf pl off ln (l.getD j 0))) ∧
  w.cell? ⟨bo, j * 6 + 3, none⟩ = some (.int .i64 (lastOf pl off ln (l.getD j 0))) ∧ w.cell? ⟨bo, j * 6 + 4, none⟩ = some (.int .i64 (skipOf pl off ln (l.getD j 0))) ∧ w.cell? ⟨bo, j * 6 + 5, none⟩ = some (.int .i64 (lenOf pl off ln (l.getD j 0)))
theorem outAt_of {w : World} {bo : Nat} {se pl : Nat → Int} {off ln : Int} {l : List Nat} {f : Nat → Value} (h : w.rowIs bo 45 (l.length * 6) f) (k : outOK se pl off ln l f l.length) : OutAt w bo se pl off ln l := by
  intro j hj
  have := k j hj
  refine ⟨?_, ?_, ?_, ?_, ?_, ?_⟩
  · rw [h.cell (by omega), this.1]
  · rw [h.cell (by omega), this.2.1]
  · rw [h.cell (by omega), this.2.2.1]
  · rw [h.cell (by omega), this.2.2.2.1]
  · rw [h.cell (by omega), this.2.2.2.2.1]
  · rw [h.cell (by omega), this.2.2.2.2.2]
theorem OutAt.below {w w' : World} {B bo : Nat} {se pl : Nat → Int} {off ln : Int} {l : List Nat} (h : OutAt w bo se pl off ln l) (hb : Below B w w') (hB : bo < B) : OutAt w' bo se pl off ln l := by
  intro j hj
  have := h j hj
  exact ⟨(hb.cell hB).trans this.1, (hb.cell hB).trans this.2.1, (hb.cell hB).trans this.2.2.1, (hb.cell hB).trans this.2.2.2.1, (hb.cell hB).trans this.2.2.2.2.1, (hb.cell hB).trans this.2.2.2.2.2⟩

set_option maxHeartbeats 4000000 in
set_option maxRecDepth 100000 in
theorem zzSpans_any (bs bp cs cp n : Nat) (se pl : Nat → Int) (off ln : Int) (w : World) (hn : n ≤ 131072)
    (hcs : ∀ i, i < n → w.cell? ⟨bs, i, none⟩ = some (.int .i64 (se i)))
    (hcp : ∀ i, i < n → w.cell? ⟨bp, i, none⟩ = some (.int .i64 (pl i)))
    (hp : ∀ i, i < n → 0 ≤ pl i) (hs : ∀ i, i < n → 0 ≤ se i) (hpt : psum pl n ≤ 2305843009213693952) (hst : psum se n ≤ 4611686018427387904)
    (h0 : 0 ≤ off) (h1 : 0 ≤ ln) (h2 : off + ln ≤ psum pl n) :
    Calls Trym.prog 22 #[.slice (some ⟨bs, 0, none⟩) n cs, .slice (some ⟨bp, 0, none⟩) n cp, .int .i64 off, .int .i64 ln] w fun e w' => ∃ bo : Nat,
      e = .returned (.tuple #[.slice (some ⟨bo, 0, none⟩) (inc pl off ln n).length (inc pl off ln n).length, .int .i64 (startOf se pl off ln n), .int .i64 (endOf se pl off ln n)]) ∧
      w.heap.size ≤ bo ∧ bo < w'.heap.size ∧ Below w.heap.size w w' ∧ OutAt w' bo se pl off ln (inc pl off ln n) := by
  have mk1 := make53 n (by omega)
  have mk2 := make55 n (by omega)
  go_enter Trym.func22, Trym.ntmps22
  go_wp2
  go_loopw [30] (fun i wr => ∃ k : Nat, k ≤ n ∧ i = .int .i64 k ∧ (∃ f, wr.rowIs w.heap.size 57 (n * 32) f ∧ keysOK f k) ∧ (∃ f, wr.rowIs (w.heap.size + 1) 61 (n * 3) f ∧ layOK w.heap.size se pl f k) ∧ Below w.heap.size w wr) (fun i _ => n - (intOf i).toNat)
  case atStart =>
    obtain ⟨f, hf⟩ := keys_row w n
    obtain ⟨g, hg⟩ := lay_row (w.alloc (keysObj n)) n
    exact ⟨0, Nat.zero_le _, rfl, ⟨f, hf.alloc _, fun i hi => absurd hi (by omega)⟩, ⟨g, by simpa using hg, fun i hi => absurd hi (by omega)⟩, bel_alloc (bel_alloc (Below.refl _ _) _) _⟩
  case round =>
    obtain ⟨k, hk, rfl, ⟨f, hf, kf⟩, ⟨g, hg, kg⟩, hbel⟩ := hrel
    by_cases hlt : k < n
    · have x0 := hf.cell (i := k * 32) (by omega)
      have x1 := hf.cell (i := k * 32 + 1) (by omega)
      have x2 := hf.cell (i := k * 32 + 2) (by omega)
      have x3 := hf.cell (i := k * 32 + 3) (by omega)
      have y0 := hf.frozen (k * 32)
      have y1 := hf.frozen (k * 32 + 1)
      have y2 := hf.frozen (k * 32 + 2)
      have y3 := hf.frozen (k * 32 + 3)
      have hf4 := keySet_row k hf
      have kf4 := hd (keySet_ok kf)
      have hg4 := ((((hg.setOther (a := ⟨w.heap.size, k * 32, none⟩) (by simp) (.int .u8 ((k : Int) % 256))).setOther (a := ⟨w.heap.size, k * 32 + 1, none⟩) (by simp) (.int .u8 ((k : Int) / 256 % 256))).setOther (a := ⟨w.heap.size, k * 32 + 2, none⟩) (by simp) (.int .u8 ((k : Int) / 65536))).setOther (a := ⟨w.heap.size, k * 32 + 3, none⟩) (by simp) (.int .u8 ((k : Int) / 16777216)))
      have hb4 := ((((hbel.setCell (p := ⟨w.heap.size, k * 32, none⟩) (Nat.le_refl _) (.int .u8 ((k : Int) % 256))).setCell (p := ⟨w.heap.size, k * 32 + 1, none⟩) (Nat.le_refl _) (.int .u8 ((k : Int) / 256 % 256))).setCell (p := ⟨w.heap.size, k * 32 + 2, none⟩) (Nat.le_refl _) (.int .u8 ((k : Int) / 65536))).setCell (p := ⟨w.heap.size, k * 32 + 3, none⟩) (Nat.le_refl _) (.int .u8 ((k : Int) / 16777216)))
      have HH := hd (And.intro hf4 (And.intro hg4 hb4))
      have KG := hd kg
      clear hf4 hg4 hb4 kf kg hf hg hbel
      go_wp2
      have HH' := HH.out
      clear HH x0 x1 x2 x3 y0 y1 y2 y3
      generalize ((((wr.setCell ⟨w.heap.size, k * 32, none⟩ (.int .u8 ((k : Int) % 256))).setCell ⟨w.heap.size, k * 32 + 1, none⟩ (.int .u8 ((k : Int) / 256 % 256))).setCell ⟨w.heap.size, k * 32 + 2, none⟩ (.int .u8 ((k : Int) / 65536))).setCell ⟨w.heap.size, k * 32 + 3, none⟩ (.int .u8 ((k : Int) / 16777216))) = W1 at HH' ⊢
      obtain ⟨hf4, hg4, hb4⟩ := HH'
      have s1 : W1.cell? ⟨bs, k, none⟩ = some (.int .i64 (se k)) := (hb4.cell (World.block_lt_of_cell? w _ (hcs k hlt))).trans (hcs k hlt)
      have s2 : W1.cell? ⟨bp, k, none⟩ = some (.int .i64 (pl k)) := (hb4.cell (World.block_lt_of_cell? w _ (hcp k hlt))).trans (hcp k hlt)
      have x0 := hg4.cell (i := k * 3) (by omega)
      have x1 := hg4.cell (i := k * 3 + 1) (by omega)
      have x2 := hg4.cell (i := k * 3 + 2) (by omega)
      have y0 := hg4.frozen (k * 3)
      have y1 := hg4.frozen (k * 3 + 1)
      have y2 := hg4.frozen (k * 3 + 2)
      have l1 : (k : Int) < (n : Int) := by omega
      have l2 : (0 : Int) ≤ (k : Int) := by omega
      have HH := hd (And.intro hf4 (And.intro hg4 hb4))
      clear hf4 hg4 hb4
      go_region
      go_wp2
      go_roundw
      case rel =>
        obtain ⟨hf4, hg4, hb4⟩ := HH.out
        exact ⟨k + 1, by omega, by go_num, ⟨_, ((hf4.setOther (by simp) _).setOther (by simp) _).setOther (by simp) _, kf4.out⟩, ⟨_, laySet_row k hg4, laySet_ok KG.out⟩, (((hb4.setCell (Nat.le_succ _) _).setCell (Nat.le_succ _) _).setCell (Nat.le_succ _) _).drew⟩
      case measure => simp [intOf]; omega
    · have e : k = n := by omega
      subst e
      have z0 : ∀ i, i < k → wr.cell? ⟨w.heap.size + 1, i * 3, none⟩ = some (.pointer (some ⟨w.heap.size, i * 32, none⟩)) := fun i hi => by rw [hg.cell (by omega), (kg i hi).1]
      have z1 : ∀ i, i < k → wr.cell? ⟨w.heap.size + 1, i * 3 + 1, none⟩ = some (.int .i64 (se i)) := fun i hi => by rw [hg.cell (by omega), (kg i hi).2.1]
      have z2 : ∀ i, i < k → wr.cell? ⟨w.heap.size + 1, i * 3 + 2, none⟩ = some (.int .i64 (pl i)) := fun i hi => by rw [hg.cell (by omega), (kg i hi).2.2]
      have Hz := hd (And.intro z0 (And.intro z1 z2))
      have KK := hd (And.intro hf (And.intro kf hbel))
      clear z0 z1 z2 hg kg hf kf hcs hcp mk1 mk2 hbel
      go_wp2_with fail
      refine (spans_cells _ w.heap.size k se pl off ln wr hn Hz.out.1 Hz.out.2.1 Hz.out.2.2 hp hs hpt hst h0 h1 h2).mono ?_
      rintro e w1 ⟨ao, cap, rfl, hcase, hb1⟩
      have hle := inc_len_le pl off ln k
      have hmem := hd (inc_lt pl off ln k)
      generalize hL : inc pl off ln k = L at hle hmem hcase ⊢
      have HL := hd hL
      clear hL
      have mk3 := make40 L.length (by omega)
      have hcase' := hd hcase
      obtain ⟨hkr, hko, hbw⟩ := KK.out
      have kb1 : w.heap.size < w1.heap.size := Nat.lt_of_lt_of_le hkr.lt hb1.size
      have KC : Hid (∀ i, i < k → w1.cell? ⟨w.heap.size, i * 32, none⟩ = some (.int .u8 ((i : Int) % 256)) ∧ w1.cell? ⟨w.heap.size, i * 32 + 1, none⟩ = some (.int .u8 ((i : Int) / 256 % 256)) ∧
          w1.cell? ⟨w.heap.size, i * 32 + 2, none⟩ = some (.int .u8 ((i : Int) / 65536)) ∧ w1.cell? ⟨w.heap.size, i * 32 + 3, none⟩ = some (.int .u8 ((i : Int) / 16777216))) := by
        intro i hi
        have h := hko i hi
        refine ⟨?_, ?_, ?_, ?_⟩
        · exact (hb1.cell hkr.lt).trans (by rw [hkr.cell (by omega), h.1])
        · exact (hb1.cell hkr.lt).trans (by rw [hkr.cell (by omega), h.2.1])
        · exact (hb1.cell hkr.lt).trans (by rw [hkr.cell (by omega), h.2.2.1])
        · exact (hb1.cell hkr.lt).trans (by rw [hkr.cell (by omega), h.2.2.2])
      have HB1 : Hid (Below w.heap.size w w1) := hbw.trans (hb1.mono hbw.size)
      clear hcase hkr hko hbw hb1 KK Hz
      go_wp2
      go_loopw [89] (fun i wr => ∃ j : Nat, j ≤ L.length ∧ i = .int .i64 j ∧ (∃ f, wr.rowIs w1.heap.size 45 (L.length * 6) f ∧ outOK se pl off ln L f j) ∧ Below w1.heap.size w1 wr) (fun i _ => L.length - (intOf i).toNat)
      case atStart =>
        obtain ⟨f, hf⟩ := out_row w1 L.length
        exact ⟨0, Nat.zero_le _, rfl, ⟨f, hf, fun i hi => absurd hi (by omega)⟩, bel_alloc (Below.refl _ _) _⟩
      case round =>
        obtain ⟨j, hj, rfl, ⟨fo, hf, kf⟩, hbj⟩ := hrel
        by_cases hlt2 : j < L.length
        · rcases hcase'.out with m0 | ⟨g, rfl, hg1, hcc⟩
          · omega
          obtain ⟨i, hiL⟩ : ∃ i, i = L.getD j 0 := ⟨_, rfl⟩
          have hik : i < k := by
            have : i ∈ L := by rw [hiL, List.getD_eq_getElem?_getD, List.getElem?_eq_getElem hlt2]; simp
            exact (hmem.out i this).1
          have sp := hcc j hlt2
          rw [← hiL] at sp
          have c0 : wr.cell? ⟨g, j * 6, none⟩ = some (.pointer (some ⟨w.heap.size, i * 32, none⟩)) := (hbj.cell hg1).trans (by rw [show j * 6 = j * 6 + 0 from rfl, sp 0 (by omega)]; rfl)
          have hk4 := KC.out i hik
          have k0 := (hbj.cell (p := ⟨w.heap.size, i * 32, none⟩) kb1).trans hk4.1
          have k1 := (hbj.cell (p := ⟨w.heap.size, i * 32 + 1, none⟩) kb1).trans hk4.2.1
          have k2 := (hbj.cell (p := ⟨w.heap.size, i * 32 + 2, none⟩) kb1).trans hk4.2.2.1
          have k3 := (hbj.cell (p := ⟨w.heap.size, i * 32 + 3, none⟩) kb1).trans hk4.2.2.2
          have HI := hd hiL
          have HF := hd (And.intro hf (And.intro kf hbj))
          have HSP := hd sp
          clear sp hk4 hcc hiL hf kf hbj mk3
          go_wp2
          go_quiet (fail)
          obtain ⟨hf0, kf, hbj0⟩ := HF.out
          have hf : (wr.drewN nq).rowIs w1.heap.size 45 (L.length * 6) fo := hf0
          have hbj := below_drewN hbj0 nq
          have sp := HSP.out
          clear HF HSP hf0 hbj0 c0 k0 k1 k2 k3
          generalize wr.drewN nq = W2 at hf hbj ⊢
          have c1 : W2.cell? ⟨g, j * 6 + 1, none⟩ = some (.int .i64 (se i)) := (hbj.cell hg1).trans (by rw [sp 1 (by omega)]; rfl)
          have c2 : W2.cell? ⟨g, j * 6 + 2, none⟩ = some (.int .i64 (firstOf pl off ln i)) := (hbj.cell hg1).trans (by rw [sp 2 (by omega)]; rfl)
          have c3 : W2.cell? ⟨g, j * 6 + 3, none⟩ = some (.int .i64 (lastOf pl off ln i)) := (hbj.cell hg1).trans (by rw [sp 3 (by omega)]; rfl)
          have c4 : W2.cell? ⟨g, j * 6 + 4, none⟩ = some (.int .i64 (skipOf pl off ln i)) := (hbj.cell hg1).trans (by rw [sp 4 (by omega)]; rfl)
          have c5 : W2.cell? ⟨g, j * 6 + 5, none⟩ = some (.int .i64 (lenOf pl off ln i)) := (hbj.cell hg1).trans (by rw [sp 5 (by omega)]; rfl)
          have o0 := hf.cell (i := j * 6) (by omega)
          have o1 := hf.cell (i := j * 6 + 1) (by omega)
          have o2 := hf.cell (i := j * 6 + 2) (by omega)
          have o3 := hf.cell (i := j * 6 + 3) (by omega)
          have o4 := hf.cell (i := j * 6 + 4) (by omega)
          have o5 := hf.cell (i := j * 6 + 5) (by omega)
          have z0 := hf.frozen (j * 6)
          have z1 := hf.frozen (j * 6 + 1)
          have z2 := hf.frozen (j * 6 + 2)
          have z3 := hf.frozen (j * 6 + 3)
          have z4 := hf.frozen (j * 6 + 4)
          have z5 := hf.frozen (j * 6 + 5)
          have zb := hf.lt
          have HF := hd (And.intro hf (And.intro kf hbj))
          clear sp hf kf hbj
          go_wp2
          go_roundw
          case rel =>
            obtain ⟨hf, kf, hbj⟩ := HF.out
            exact ⟨j + 1, by omega, by go_num, ⟨_, (outSet_row _ _ _ _ _ _ j hf).alloc _, outSet_ok kf HI.out (id_back i (by omega))⟩, bel_alloc ((((((hbj.setCell (Nat.le_refl _) _).setCell (Nat.le_refl _) _).setCell (Nat.le_refl _) _).setCell (Nat.le_refl _) _).setCell (Nat.le_refl _) _).setCell (Nat.le_refl _) _) _⟩
          case measure => simp [intOf]; omega
        · have e : j = L.length := by omega
          subst e
          clear mk3
          go_wp2
          go_ret3
          exact ⟨w1.heap.size, by rw [HL.out]; rfl, HB1.out.size, hf.lt, HB1.out.trans (hbj.mono HB1.out.size), by rw [HL.out]; exact outAt_of hf kf⟩
end Go.Proofs.Qxb6601507aMods
