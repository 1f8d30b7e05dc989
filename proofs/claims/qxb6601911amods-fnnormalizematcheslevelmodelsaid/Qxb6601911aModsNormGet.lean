import Derived.Test.Qxb6601911aModsNormWalk
namespace Go.Proofs.Qxb6601911aMods
open Go.RowKit Nm

set_option maxHeartbeats 400000 in
theorem norm15 (b bh n : Nat) (L tot : Int) (h a : Nat → Int) (w : World) (hE : EncAt w b L a) (hbh : bh < b) (hc : ∀ i, i < n → w.cell? ⟨bh, i, none⟩ = some (.int .u32 (h i)))
    (h0 : 0 ≤ L) (h1 : L ≤ 30) (hn : n ≤ 53) (D : Dom (2 ^ L.toNat) tot h n) (hh : ∀ i, i < n → h i ≤ 4294967295) (ht : tot ≤ 9223372036854775807) :
    Calls Trym.prog 15 #[.pointer (some ⟨b, 0, none⟩), .slice (some ⟨bh, 0, none⟩) n n, .int .i64 tot] w fun e w' => e = .returned (.tuple #[]) ∧ EncAt w' b L (mix n (normOf (2 ^ L.toNat) tot h n) a) ∧ Below b w w' := by
  have HE := hd hE
  have HC := hd hc
  have HD := hd D
  have HH := hd hh
  clear hE hc D hh
  go_enter Trym.func15, Trym.ntmps15
  go_wp2_with fail
  refine (norm24 b bh n L tot h a w HE.out hbh HC.out h0 h1 hn HD.out HH.out ht).mono ?_
  rintro e w' ⟨rfl, hE', hB'⟩
  have HE' := hd hE'
  have HB' := hd hB'
  clear hE' hB'
  go_wp2
  go_end0
  exact ⟨rfl, HE'.out, HB'.out⟩

theorem there_new (w : World) (c : Array Value) (t : TypeId) (n : Nat) (h : n ≤ c.size) : (w.alloc (.cells c t)).there w.heap.size 0 n := by
  intro j hj
  have hr := World.rowIs_alloc w c t (fun i => c.getD i undef) (fun i hi => by simp [hi])
  refine ⟨?_, ?_⟩
  · rw [Nat.zero_add, hr.cell (by omega)]; rfl
  · rw [Nat.zero_add]; exact hr.frozen j
theorem below_setCells {B : Nat} {a : World} {b : Nat} (hb : B ≤ b) : ∀ (vs : List Value) (o : Nat) (w : World), Below B a w → Below B a (w.setCells b o vs)
  | [], _, _, h => h
  | v :: r, o, w, h => by
    rw [World.setCells]
    exact below_setCells hb r (o + 1) _ (h.setCell hb v)
theorem results_cell_mid {P : Program} {fn : Func} {p : Tmp} {ty : TypeId} (h : fn.results = #[.cell p ty]) (tmps : Array Value) (w : World) (b : Nat) (cs : List Value) (d : TypeDesc)
    (hp : tmps.getD p undef = .pointer (some ⟨b, 0, none⟩)) (hc : w.rangeAt b 0 cs) (hu : P.underlying ty = some d) (hd : d.isRow = true) (hi : (P.info? ty).map (·.size) = some cs.length) :
    (results fn tmps).run P w = .ok (.agg cs.toArray) w := by
  have hp' : tmps[p]?.getD undef = .pointer (some ⟨b, 0, none⟩) := by simpa using hp
  simp [results, h, hp', asAddr, run_loadVar_mid w b 0 ty cs d hc hu hd hi]
theorem enc_range {w : World} {b : Nat} {L : Int} {g : Nat → Int} (h : EncAt w b L g) : w.rangeAt b 1 (arr g).toList := by
  intro j v hv
  have hj : j < 53 := by have := (List.getElem?_eq_some_iff.1 hv).1; simpa [arr_size] using this
  rw [Array.getElem?_toList, arr_at g j hj] at hv
  cases hv
  exact (h.cell j hj).1
theorem arr_one (g : Nat → Int) : (arr g).all (·.oneCell') = true := by
  rw [← Array.all_toList, arr_list]
  simp [List.all_map]
  intro i _
  rfl

set_option maxHeartbeats 400000 in
set_option maxRecDepth 100000 in
theorem get16 (b : Nat) (L : Int) (g : Nat → Int) (w : World) (hE : EncAt w b L g) :
    Calls Trym.prog 16 #[.pointer (some ⟨b, 0, none⟩)] w fun e w' => e = .returned (.agg (arr g)) ∧ Below w.heap.size w w' := by
  have HE := hd hE
  have hlt := hE.lt
  clear hE
  go_enter Trym.func16, Trym.ntmps16
  go_wp2_with (first | (refine wpList_load_mid rfl 27 _ rfl b 1 rfl (arr g).toList _ (World.rangeAt_alloc (enc_range HE.out) _) Trym.underlying27 rfl arr_info ?_) | (refine wpList_store_mid rfl 27 _ _ rfl w.heap.size 0 (arr g) rfl rfl (there_new _ _ _ _ (Nat.le_refl 53)) arr_info (arr_one g) ?_))
  refine bodyPost_ret (v := .agg (arr g).toList.toArray) (results_cell_mid rfl _ _ w.heap.size (arr g).toList _ rfl (World.rangeAt_setCells_same _ _ _ _ (there_new _ _ _ _ (Nat.le_refl 53))) Trym.underlying27 rfl arr_info) rfl ⟨by simp, ?_⟩
  exact below_setCells (Nat.le_refl _) _ _ _ (bel_alloc (Below.refl _ _) _)
end Go.Proofs.Qxb6601911aMods
