import Derived.Test.Qxb6601911aModsLits
import Derived.Test.Qxb6601911aModsNorm
import Derived.Deep.MidRow
import Derived.Laws.Tables
namespace Go.Proofs.Qxb6601911aMods
open Go.RowKit Nm

/-- the 53 cells of an array of shares -/
def arr (a : Nat → Int) : Array Value := #[.int .i32 (a 0), .int .i32 (a 1), .int .i32 (a 2), .int .i32 (a 3), .int .i32 (a 4), .int .i32 (a 5), .int .i32 (a 6), .int .i32 (a 7), .int .i32 (a 8), .int .i32 (a 9), .int .i32 (a 10), .int .i32 (a 11), .int .i32 (a 12), .int .i32 (a 13), .int .i32 (a 14), .int .i32 (a 15), .int .i32 (a 16), .int .i32 (a 17), .int .i32 (a 18), .int .i32 (a 19), .int .i32 (a 20), .int .i32 (a 21), .int .i32 (a 22), .int .i32 (a 23), .int .i32 (a 24), .int .i32 (a 25), .int .i32 (a 26), .int .i32 (a 27), .int .i32 (a 28), .int .i32 (a 29), .int .i32 (a 30), .int .i32 (a 31), .int .i32 (a 32), .int .i32 (a 33), .int .i32 (a 34), .int .i32 (a 35), .int .i32 (a 36), .int .i32 (a 37), .int .i32 (a 38), .int .i32 (a 39), .int .i32 (a 40), .int .i32 (a 41), .int .i32 (a 42), .int .i32 (a 43), .int .i32 (a 44), .int .i32 (a 45), .int .i32 (a 46), .int .i32 (a 47), .int .i32 (a 48), .int .i32 (a 49), .int .i32 (a 50), .int .i32 (a 51), .int .i32 (a 52)]
theorem arr_list (a : Nat → Int) : (arr a).toList = (List.range 53).map (fun i => Value.int .i32 (a i)) := rfl
theorem arr_size (a : Nat → Int) : (arr a).size = 53 := rfl
theorem arr_at (a : Nat → Int) (i : Nat) (h : i < 53) : (arr a)[i]? = some (.int .i32 (a i)) := by
  rw [← Array.getElem?_toList, arr_list]
  simp [List.getElem?_range h]
/-- the encoder's other cells, behind norm: symbols, sym, states, x -/
def encTail : List Value := .int .i64 0 :: ((List.replicate 53 [Value.int .u32 0, Value.int .i32 0]).flatten ++ (List.replicate 512 (Value.int .u16 0) ++ [Value.int .u32 0]))
def encOf (L : Int) (a : Nat → Int) : Array Value := (.int .u64 L :: ((arr a).toList ++ encTail)).toArray
theorem built50 (L : Int) (a : Nat → Int) : Trym.prog.built 50 [(0, .int .u64 L), (1, .agg (arr a))] = some (encOf L a) := by kernel_rfl
theorem tail_size : encTail.length = 620 := by kernel_rfl
theorem arr_info : (Trym.prog.info? 27).map (·.size) = some 53 := by kernel_rfl

theorem zzBytes18_ok (L : Int) (a : Nat → Int) (ao : Option Addr) (len cap : Nat) (tot : Int) (w : World) (h : len ≤ 1048576) :
    Calls Trym.prog 18 #[.int .u64 L, .agg (arr a), .slice ao len cap, .int .i64 tot] w fun e w' => e = .returned (.bool true) ∧ w' = w.alloc (.cells (arr a) 27) := by
  go_enter Trym.func18, Trym.ntmps18
  go_wp2
  go_ret
  exact ⟨rfl, rfl⟩
theorem zzBytes18_no (L : Int) (a : Nat → Int) (ao : Option Addr) (len cap : Nat) (tot : Int) (w : World) (h : 1048576 < len) :
    Calls Trym.prog 18 #[.int .u64 L, .agg (arr a), .slice ao len cap, .int .i64 tot] w fun e w' => e = .returned (.bool false) ∧ w' = w.alloc (.cells (arr a) 27) := by
  go_enter Trym.func18, Trym.ntmps18
  go_wp2
  go_ret
  exact ⟨rfl, rfl⟩

theorem build50 (L : Int) (a : Nat → Int) (w : World) : (Instr.build 50 #[(0, .int .u64 L), (1, .agg (arr a))]).run Trym.prog w = .ok (.agg (encOf L a)) w :=
  run_build (P := Trym.prog) w 50 #[(0, .int .u64 L), (1, .agg (arr a))] (encOf L a) (built50 L a)
theorem wpList_build {P : Program} {ops : Array Oper} {rest : List Oper} {o : Oper} {a : Act} {w : World} {Q : Exit → Act → World → Prop} (hgd : o.guard = none) (t : TypeId) (parts : Array (Nat × Operand)) (ho : o.op = .build t parts)
    (cells : Array Value) (l : List (Nat × Value)) (hl : (parts.map fun (i, x) => (i, a.eval x)).toList = l) (hc : P.built t l = some cells) (h : wpList P ops Q rest (a.put o.dst (.agg cells)) w) : wpList P ops Q (o :: rest) a w :=
  wpList_plain hgd fun _ hK => wp_build t parts ho (by rw [hl, hc]; rfl) (by rw [hl, hc]; exact hK _ _ h)
set_option maxRecDepth 100000 in
set_option maxHeartbeats 400000 in
theorem enc14 (L : Int) (a : Nat → Int) (w : World) :
    Calls Trym.prog 14 #[.int .u64 L, .agg (arr a)] w fun e w' => e = .returned (.pointer (some ⟨w.heap.size + 1, 0, none⟩)) ∧ w' = (w.alloc (.cells (arr a) 27)).alloc (.cells (encOf L a) 50) := by
  go_enter Trym.func14, Trym.ntmps14
  go_wp2_with (first | (refine wpList_load_row rfl 27 _ rfl w.heap.size rfl 27 (arr a) (0, 0) _ (heap_alloc_new _ _) Trym.underlying27 rfl arr_info ?_) | (refine wpList_build rfl 50 #[(0, .tmp 5), (1, .tmp 6)] rfl (encOf L a) [(0, .int .u64 L), (1, .agg (arr a))] (by simp [Act.eval]; exact ⟨rfl, rfl⟩) (built50 L a) ?_))
  go_ret
  exact ⟨rfl, rfl⟩
end Go.Proofs.Qxb6601911aMods
