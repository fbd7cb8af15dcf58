/-
  The leaves: channels, the maker of the replica, the getters, the closure.
-/
import Derived.Test.Qxb6616082aDoorLocks
import Derived.Test.Qxb6616082aDoorSel
import Derived.WalkKit
import Derived.WalkSpells
import Derived.WalkLawsBesides
import Derived.Deep.DeepCutAuto
namespace Go.Proofs.Qxb6616082aDoor
open Go.RowKit Go.Conc

theorem bytes68 : (Tryd.prog.info? 68).map (·.bytes) = some 0 := by kernel_rfl
theorem mkc (w : World) : (Instr.makeChan 32 (.int .i64 0)).run Tryd.prog w = .ok (.chan (some w.heap.size)) (w.alloc (.chan 0 #[] false 0 0 false)) := by
  obtain ⟨i, hi, hb⟩ := Option.map_eq_some_iff.1 bytes68
  simpa using run_makeChan (P := Tryd.prog) (w := w) Tryd.underlying32 hi .i64 0 (by omega) (by rw [hb]; omega)

theorem eqIn_chan (d : Nat) (a b : Option Nat) (w : World) : (Op.equalIn (d + 1) 32 (.chan a) (.chan b)).run Tryd.prog w = .ok (a == b) w := by
  simp [Op.equalIn, run_underlying Tryd.underlying32]
theorem eql_chan (a b : Option Nat) (w : World) : (binOp .eql 32 (.chan a) (.chan b)).run Tryd.prog w = .ok (.bool (a == b)) w := by
  simp only [binOp]
  simp [Op.equal, Op.maxDepth, eqIn_chan 9999 a b w]

theorem close0 (w : World) (ats : Array TypeId) (ty : TypeId) : (Builtin.close_ ats ty #[.chan (some w.heap.size)]).run Tryd.prog (w.alloc (.chan 0 #[] false 0 0 false)) = .ok undef ((w.alloc (.chan 0 #[] false 0 0 false)).setChan w.heap.size 0 #[] true 0 0 false) :=
  run_close_open ats ty (heap_alloc_new w _)

set_option maxRecDepth 100000 in
set_option maxHeartbeats 400000 in
theorem c4_any (s t : Int) (a : Option Addr) (n c : Nat) (w : World) :
    Calls Tryd.prog 4 #[.int .u64 s, .int .u64 t, .slice a n c] w fun e w' => (e = .returned (.bool (decide (n ≤ 1048576)))) ∧ w' = w := by
  by_cases h : n ≤ 1048576
  all_goals
    go_enter Tryd.func4, Tryd.ntmps4
    go_wp2
    go_ret
    exact ⟨by simp [h], rfl⟩

/-- The cells of a new replica. -/
def repCells (s : Int) (c : Nat) : Array Value := #[.int .i64 0, .pointer none, .pointer none, .nilIface, .pointer none, .chan (some c), .nilFunc, .map none, .int .u64 0, .int .i64 0, .int .u64 0, .map none, .map none, .map none, .slice none 0 0, .int .i64 0, .pointer none, .int .i64 0, .int .u64 0, .int .i64 0, .map none, .map none, .map none, .map none, .int .u64 0, .map none, .int .u64 0, .int .i64 0, .pointer none, .bool false, .int .u64 0, .int .u64 0, .int .i64 0, .pointer none, .int .u64 0, .nilIface, .int .u64 0, .int .i64 0, .pointer none, .map none, .int .u64 0, .int .i64 0, .int .i64 0, .int .i64 0, .int .u64 0, .int .i64 0, .pointer none, .int .i64 0, .int .u64 0, .pointer none, .pointer none, .map none, .int .u64 0, .int .u64 0, .int .u64 0, .int .u32 0, .chan none, .int .u64 0, .int .u32 0, .pointer none, .int .i32 0, .int .u32 0, .int .u64 0, .int .u64 0, .int .u64 0, .int .u64 0, .int .u64 0, .int .i32 0, .int .u32 0, .map none, .slice none 0 0, .map none, .int .i64 0, .int .u64 s, .slice none 0 0, .slice none 0 0, .slice none 0 0, .bool false, .int .i64 0]
theorem build95 (s : Int) (c : Nat) (w : World) : (Instr.build 95 #[(41, .int .u64 s), (5, .chan (some c))]).run Tryd.prog w = .ok (.agg (repCells s c)) w :=
  run_build w 95 _ _ (by kernel_rfl)
theorem box95 (s : Int) (c : Nat) (w : World) : (Instr.box 95 (.agg (repCells s c))).run Tryd.prog w = .ok (.pointer (some ⟨w.heap.size, 0, none⟩)) (w.alloc (.cells (repCells s c) 95)) := by kernel_rfl

theorem wp_of_value {P : Program} {o : Oper} {a : Act} {w w' : World} {K : Act → World → Prop} {Q : Exit → Act → World → Prop} (v : Value) (h : (execOp a.eval o).run P w = .ok (.value v) w') (hK : K (a.put o.dst v) w') : o.wp P a w K Q := by
  unfold Oper.wp
  rw [h]
  exact hK

theorem wpList_build95 {ops : Array Oper} {rest : List Oper} {o : Oper} {a : Act} {w : World} {Q : Exit → Act → World → Prop} {x y : Operand} {s : Int} {c : Nat} (hg : o.guard = none) (ho : o.op = .build 95 #[(41, x), (5, y)])
    (hx : a.eval x = .int .u64 s) (hy : a.eval y = .chan (some c)) (h : wpList Tryd.prog ops Q rest (a.put o.dst (.agg (repCells s c))) w) : wpList Tryd.prog ops Q (o :: rest) a w :=
  wpList_plain hg fun K hK => wp_of_value (.agg (repCells s c)) (by simp [execOp, ho, hx, hy, build95]) (hK _ _ h)
theorem wpList_box95 {ops : Array Oper} {rest : List Oper} {o : Oper} {a : Act} {w : World} {Q : Exit → Act → World → Prop} {x : Operand} {s : Int} {c : Nat} (hg : o.guard = none) (ho : o.op = .box 95 x)
    (hx : a.eval x = .agg (repCells s c)) (h : wpList Tryd.prog ops Q rest (a.put o.dst (.pointer (some ⟨w.heap.size, 0, none⟩))) (w.alloc (.cells (repCells s c) 95))) : wpList Tryd.prog ops Q (o :: rest) a w :=
  wpList_plain hg fun K hK => wp_of_value (.pointer (some ⟨w.heap.size, 0, none⟩)) (by simp [execOp, ho, hx, box95]) (hK _ _ h)

set_option maxRecDepth 100000 in
set_option maxHeartbeats 400000 in
theorem c5_any (s : Int) (w : World) :
    Calls Tryd.prog 5 #[.int .u64 s] w fun e w' => (e = .returned (.pointer (some ⟨w.heap.size + 1, 0, none⟩))) ∧ w' = ((w.alloc (.chan 0 #[] false 0 0 false)).setChan w.heap.size 0 #[] true 0 0 false).alloc (.cells (repCells s w.heap.size) 95) := by
  have hmk := mkc
  have hcl := close0 w
  have hsz := fun cap buf cl x r tm => size_setChan (w.alloc (.chan 0 #[] false 0 0 false)) w.heap.size cap buf cl x r tm
  go_enter Tryd.func5, Tryd.ntmps5
  go_wp2_with (first | (refine wpList_build95 (s := s) (c := w.heap.size) rfl rfl rfl rfl ?_) | (refine wpList_box95 (s := s) (c := w.heap.size) rfl rfl rfl ?_))
  go_ret
  exact ⟨by simp, rfl⟩

set_option maxRecDepth 100000 in
set_option maxHeartbeats 400000 in
theorem c9_any (b : Nat) (n : Int) (w : World) (h : w.cell? ⟨b, 73, none⟩ = some (.int .u64 n)) :
    Calls Tryd.prog 9 #[.pointer (some ⟨b, 0, none⟩)] w fun e w' => e = .returned (.int .u64 n) ∧ w' = w := by
  go_enter Tryd.func9, Tryd.ntmps9
  go_wp2
  go_ret
  exact ⟨rfl, rfl⟩
set_option maxRecDepth 100000 in
set_option maxHeartbeats 400000 in
theorem c13_any (b n c : Nat) (a : Option Addr) (w : World) (h : w.cell? ⟨b, 76, none⟩ = some (.slice a n c)) :
    Calls Tryd.prog 13 #[.pointer (some ⟨b, 0, none⟩)] w fun e w' => e = .returned (.int .i64 n) ∧ w' = w := by
  go_enter Tryd.func13, Tryd.ntmps13
  go_wp2
  go_ret
  exact ⟨rfl, rfl⟩
set_option maxRecDepth 100000 in
set_option maxHeartbeats 400000 in
theorem c14_any (b g n c k : Nat) (t : Int) (w : World) (h : w.cell? ⟨b, 76, none⟩ = some (.slice (some ⟨g, 0, none⟩) n c)) (hk : k < n) (hf : w.cell? ⟨g, k * 2, none⟩ = some (.int .u64 t)) :
    Calls Tryd.prog 14 #[.pointer (some ⟨b, 0, none⟩), .int .i64 k] w fun e w' => e = .returned (.int .u64 t) ∧ w' = w := by
  go_enter Tryd.func14, Tryd.ntmps14
  go_wp2
  go_ret
  exact ⟨rfl, rfl⟩
set_option maxRecDepth 100000 in
set_option maxHeartbeats 400000 in
theorem c11_any (w : World) : Calls Tryd.prog 11 #[] w fun e w' => e = .returned (.iface 113 (.agg #[])) ∧ w' = w := by
  go_enter Tryd.func11, Tryd.ntmps11
  go_wp2
  go_ret
  exact ⟨rfl, rfl⟩
set_option maxRecDepth 100000 in
set_option maxHeartbeats 400000 in
theorem c68_any (w : World) : Calls Tryd.prog 68 #[.agg #[]] w fun e w' => e = .returned (.chan none) ∧ w' = w.alloc (.cells #[] 111) := by
  go_enter Tryd.func68, Tryd.ntmps68
  go_wp2
  go_ret
  exact ⟨rfl, rfl⟩
set_option maxRecDepth 100000 in
set_option maxHeartbeats 400000 in
theorem c18_any (t : Int) (c c' bw : Nat) (w : World) (h : w.cell? ⟨bw, 1, none⟩ = some (.chan (some c'))) (hl : bw < w.heap.size) :
    Calls Tryd.prog 18 #[.agg #[.int .u64 t, .chan (some c)], .pointer (some ⟨bw, 0, none⟩)] w fun e w' => e = .returned (.bool (c == c')) ∧ w' = w.alloc (.cells #[.int .u64 t, .chan (some c)] 97) := by
  have he := eql_chan
  go_enter Tryd.func18, Tryd.ntmps18
  go_wp2
  go_ret
  exact ⟨by simp, rfl⟩
end Go.Proofs.Qxb6616082aDoor
