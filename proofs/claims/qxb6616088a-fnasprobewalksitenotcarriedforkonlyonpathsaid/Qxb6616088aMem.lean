/-
  Members and messages.
-/
import Derived.Test.Qxb6616088aRows
import Derived.WalkKit
import Derived.WalkSpells
import Derived.WalkLawsBesides
import Derived.Deep.RegionLaw
import Derived.Deep.RegionWith
import Derived.Deep.DeepCutAuto
import Derived.Deep.OwnRows
import Derived.Deep.QuietTactic
import Derived.Deep.MidRow
import Derived.BigQuiet
import Derived.Below
namespace Go.Proofs.Qxb6616088a
open Go.RowKit

structure Mem where
  s0 : ByteArray
  s1 : ByteArray
  b : Int
  s3 : ByteArray
  s4 : ByteArray
  s5 : ByteArray
  s6 : ByteArray
  s7 : ByteArray
  n : Int

set_option maxRecDepth 100000 in
set_option maxHeartbeats 1000000 in
theorem c20_any (m : Mem) (w : World) :
    Calls Try.prog 20 #[.agg #[.string m.s0, .string m.s1, .int .i64 m.b, .string m.s3, .string m.s4, .string m.s5, .string m.s6, .string m.s7, .int .u64 m.n]] w fun e w' => e = .returned (.agg #[.string m.s0, .string m.s1, .int .i64 m.b, .string m.s3, .string m.s4, .string m.s5, .string m.s6, .string m.s7, .int .u64 m.n]) ∧ Below w.heap.size w w' := by
  go_enter Try.func20, Try.ntmps20
  go_wp2_with fail
  refine bodyPost_ret (v := .agg #[.string m.s0, .string m.s1, .int .i64 m.b, .string m.s3, .string m.s4, .string m.s5, .string m.s6, .string m.s7, .int .u64 m.n]) ?_ rfl ⟨rfl, ((Below.refl _ _).alloc (Nat.le_refl _) _).alloc (by simp) _⟩
  exact results_cell_row (P := Try.prog) (p := 2) (ty := 72) (by kernel_rfl) _ _ (w.heap.size + 1) 72 _ (0, 0) _ rfl (heap_alloc2_new _ _ _) Try.underlying72 rfl (by kernel_rfl)

/-- A message, ours or the program's: the same flat cells. -/
structure Msg where
  k : Int
  f : ByteArray
  t : ByteArray
  ts : ByteArray
  tn : ByteArray
  rs : ByteArray
  rp : ByteArray
  mo : Int
  bg : Int
  pa : Option Addr
  pl : Nat
  pc : Nat
  cs : ByteArray
  cn : ByteArray
  ch : ByteArray
  nu : Int
  bo : ByteArray
  wa : Int
  fo : Int
  un : Int
  sq : Int
  aa : Option Addr
  al : Nat
  ac : Nat
  fe : Int
  te : Int
  cl : Int
def Msg.cells (m : Msg) : Array Value := #[.int .u8 m.k, .string m.f, .string m.t, .string m.ts, .string m.tn, .string m.rs, .string m.rp, .int .u8 m.mo, .int .i64 m.bg, .slice m.pa m.pl m.pc, .string m.cs, .string m.cn, .string m.ch, .int .u64 m.nu, .string m.bo, .int .u64 m.wa, .int .u64 m.fo, .int .u64 m.un, .int .u64 m.sq, .slice m.aa m.al m.ac, .int .i64 m.fe, .int .i64 m.te, .int .i64 m.cl]


theorem box26 (m : Msg) (w : World) : (Instr.box 26 (.agg m.cells)).run Try.prog w = .ok (.pointer (some ⟨w.heap.size, 0, none⟩)) (w.alloc (.cells m.cells 26)) := by kernel_rfl
theorem box40 (m : Msg) (w : World) : (Instr.box 40 (.agg m.cells)).run Try.prog w = .ok (.pointer (some ⟨w.heap.size, 0, none⟩)) (w.alloc (.cells m.cells 40)) := by kernel_rfl
def zeroMsg : Msg := ⟨0, ByteArray.empty, ByteArray.empty, ByteArray.empty, ByteArray.empty, ByteArray.empty, ByteArray.empty, 0, 0, none, 0, 0, ByteArray.empty, ByteArray.empty, ByteArray.empty, 0, ByteArray.empty, 0, 0, 0, 0, none, 0, 0, 0, 0, 0⟩
theorem alloc40 (w : World) : (Instr.alloc 40 true (.tuple #[])).run Try.prog w = .ok (.pointer (some ⟨w.heap.size, 0, none⟩)) (w.alloc (.cells zeroMsg.cells 40)) := by kernel_rfl
theorem size_cells (m : Msg) : m.cells.size = 23 := rfl
theorem one_cells (m : Msg) : m.cells.all (·.oneCell') = true := by simp [Msg.cells, Value.oneCell']

theorem wp_of_val {P : Program} {o : Oper} {a : Act} {w w' : World} {K : Act → World → Prop} {Q : Exit → Act → World → Prop} (v : Value) (h : (execOp a.eval o).run P w = .ok (.value v) w') (hK : K (a.put o.dst v) w') : o.wp P a w K Q := by
  unfold Oper.wp
  rw [h]
  exact hK
theorem wpList_box26 {ops : Array Oper} {rest : List Oper} {o : Oper} {a : Act} {w : World} {Q : Exit → Act → World → Prop} {x : Operand} {m : Msg} (hg : o.guard = none) (ho : o.op = .box 26 x)
    (hx : a.eval x = .agg m.cells) (h : wpList Try.prog ops Q rest (a.put o.dst (.pointer (some ⟨w.heap.size, 0, none⟩))) (w.alloc (.cells m.cells 26))) : wpList Try.prog ops Q (o :: rest) a w :=
  wpList_plain hg fun K hK => wp_of_val (.pointer (some ⟨w.heap.size, 0, none⟩)) (by simp [execOp, ho, hx, box26]) (hK _ _ h)
theorem wpList_box40 {ops : Array Oper} {rest : List Oper} {o : Oper} {a : Act} {w : World} {Q : Exit → Act → World → Prop} {x : Operand} {m : Msg} (hg : o.guard = none) (ho : o.op = .box 40 x)
    (hx : a.eval x = .agg m.cells) (h : wpList Try.prog ops Q rest (a.put o.dst (.pointer (some ⟨w.heap.size, 0, none⟩))) (w.alloc (.cells m.cells 40))) : wpList Try.prog ops Q (o :: rest) a w :=
  wpList_plain hg fun K hK => wp_of_val (.pointer (some ⟨w.heap.size, 0, none⟩)) (by simp [execOp, ho, hx, box40]) (hK _ _ h)
theorem wpList_alloc40 {ops : Array Oper} {rest : List Oper} {o : Oper} {a : Act} {w : World} {Q : Exit → Act → World → Prop} (hg : o.guard = none) (ho : o.op = .alloc 40)
    (h : wpList Try.prog ops Q rest (a.put o.dst (.pointer (some ⟨w.heap.size, 0, none⟩))) (w.alloc (.cells zeroMsg.cells 40))) : wpList Try.prog ops Q (o :: rest) a w :=
  wpList_plain hg fun K hK => wp_of_val (.pointer (some ⟨w.heap.size, 0, none⟩)) (by simp [execOp, ho, alloc40]) (hK _ _ h)

/-- A message lies in block g. -/
def MAt (w : World) (g : Nat) (T : TypeId) (m : Msg) : Prop := w.heap[g]? = some (.cells m.cells T (0, 0))
theorem MAt.lt {w : World} {g T : Nat} {m : Msg} (h : MAt w g T m) : g < w.heap.size := (Array.getElem?_eq_some_iff.1 h).1
theorem MAt.below {w w' : World} {g T B : Nat} {m : Msg} (h : MAt w g T m) (hb : Below B w w') (hg : g < B) : MAt w' g T m := (hb.block g hg).trans h
theorem MAt.cell {w : World} {g T : Nat} {m : Msg} (h : MAt w g T m) (j : Nat) : w.cell? ⟨g, j, none⟩ = m.cells[j]? := cell_of_row w g j m.cells T (0, 0) h
theorem MAt.frozen {w : World} {g T : Nat} {m : Msg} (h : MAt w g T m) (j : Nat) : w.frozen? ⟨g, j, none⟩ = false := frozen_of_row w g j m.cells T h

theorem wpList_loadM {ops : Array Oper} {rest : List Oper} {o : Oper} {a : Act} {w : World} {Q : Exit → Act → World → Prop} {x : Operand} (hg : o.guard = none) (ho : o.op = .load 40 x) (g : Nat) (m : Msg)
    (hx : a.eval x = .pointer (some ⟨g, 0, none⟩)) (hm : MAt w g 40 m) (h : wpList Try.prog ops Q rest (a.put o.dst (.agg m.cells)) w) : wpList Try.prog ops Q (o :: rest) a w :=
  wpList_load_row hg 40 x ho g hx 40 m.cells (0, 0) _ hm Try.underlying40 rfl (by kernel_rfl) h
theorem wpList_loadZ {ops : Array Oper} {rest : List Oper} {o : Oper} {a : Act} {w : World} {Q : Exit → Act → World → Prop} {x : Operand} (hg : o.guard = none) (ho : o.op = .load 26 x) (g : Nat) (m : Msg)
    (hx : a.eval x = .pointer (some ⟨g, 0, none⟩)) (hm : MAt w g 26 m) (h : wpList Try.prog ops Q rest (a.put o.dst (.agg m.cells)) w) : wpList Try.prog ops Q (o :: rest) a w :=
  wpList_load_row hg 26 x ho g hx 26 m.cells (0, 0) _ hm Try.underlying26 rfl (by kernel_rfl) h
theorem wpList_storeM {ops : Array Oper} {rest : List Oper} {o : Oper} {a : Act} {w : World} {Q : Exit → Act → World → Prop} {x y : Operand} (hg : o.guard = none) (ho : o.op = .store 40 x y) (g : Nat) (m old : Msg)
    (hx : a.eval x = .pointer (some ⟨g, 0, none⟩)) (hy : a.eval y = .agg m.cells) (hm : MAt w g 40 old) (h : wpList Try.prog ops Q rest (a.put o.dst undef) (w.setRow g m.cells)) : wpList Try.prog ops Q (o :: rest) a w :=
  wpList_store_row hg 40 x y ho g m.cells hx hy 40 old.cells hm (by kernel_rfl) rfl (one_cells m) h

/-- The probe of a message. -/
def probe (m : Msg) (n f : Int) : Msg := if 0 < m.pl then { m with k := 4, wa := n, fo := IntKind.u64.wrap f } else { m with k := 4 }
theorem probe_long {m : Msg} (n f : Int) (h : 0 < m.pl) : probe m n f = { m with k := 4, wa := n, fo := IntKind.u64.wrap f } := if_pos h
theorem probe_short {m : Msg} (n f : Int) (h : m.pl = 0) : probe m n f = { m with k := 4 } := if_neg (by omega)

theorem below_setRow {B : Nat} {a w : World} (h : Below B a w) (g : Nat) (c : Array Value) (hg : B ≤ g) : Below B a (w.setRow g c) :=
  h.trans ⟨rfl, rfl, rfl, by simp, fun i hi => setRow_other w g i c (by omega)⟩

set_option maxRecDepth 100000 in
set_option maxHeartbeats 1000000 in
theorem c19_any (m : Msg) (b : Nat) (n f : Int) (w : World) (hb : w.cell? ⟨b, 2, none⟩ = some (.int .u64 n)) (hbl : b < w.heap.size) :
    Calls Try.prog 19 #[.pointer (some ⟨b, 0, none⟩), .agg m.cells, .int .i64 f] w fun e w' => e = .returned (.agg (probe m n f).cells) ∧ Below w.heap.size w w' := by
  have h9 : m.cells[9]? = some (.slice m.pa m.pl m.pc) := rfl
  have h0 : m.cells[0]? = some (.int .u8 m.k) := rfl
  have h15 : m.cells[15]? = some (.int .u64 m.wa) := rfl
  have h16 : m.cells[16]? = some (.int .u64 m.fo) := rfl
  by_cases h : 0 < m.pl
  · rw [probe_long n f h]
    go_enter Try.func19, Try.ntmps19
    go_wp2_with (first | (refine wpList_box40 (m := m) rfl rfl rfl ?_) | (refine wpList_alloc40 rfl rfl ?_) | (refine wpList_loadM rfl rfl w.heap.size { m with k := 4, wa := n, fo := IntKind.u64.wrap f } rfl (heap_alloc2_old w _ _) ?_) | (refine wpList_storeM rfl rfl (w.heap.size + 1) { m with k := 4, wa := n, fo := IntKind.u64.wrap f } zeroMsg rfl rfl (heap_alloc2_new w _ _) ?_))
    refine bodyPost_ret (v := .agg { m with k := 4, wa := n, fo := IntKind.u64.wrap f }.cells) ?_ rfl ⟨rfl, below_setRow (((Below.refl _ _).alloc (Nat.le_refl _) _).alloc (by simp) _) _ _ (by omega)⟩
    exact results_cell_row (P := Try.prog) (p := 6) (ty := 40) (by kernel_rfl) _ _ (w.heap.size + 1) 40 _ (0, 0) _ rfl (setRow_heap _ _ _ _ _ _ (heap_alloc2_new _ _ _)) Try.underlying40 rfl (by kernel_rfl)
  · rw [probe_short n f (by omega)]
    go_enter Try.func19, Try.ntmps19
    go_wp2_with (first | (refine wpList_box40 (m := m) rfl rfl rfl ?_) | (refine wpList_alloc40 rfl rfl ?_) | (refine wpList_loadM rfl rfl w.heap.size { m with k := 4 } rfl (heap_alloc2_old w _ _) ?_) | (refine wpList_storeM rfl rfl (w.heap.size + 1) { m with k := 4 } zeroMsg rfl rfl (heap_alloc2_new w _ _) ?_))
    refine bodyPost_ret (v := .agg { m with k := 4 }.cells) ?_ rfl ⟨rfl, below_setRow (((Below.refl _ _).alloc (Nat.le_refl _) _).alloc (by simp) _) _ _ (by omega)⟩
    exact results_cell_row (P := Try.prog) (p := 6) (ty := 40) (by kernel_rfl) _ _ (w.heap.size + 1) 40 _ (0, 0) _ rfl (setRow_heap _ _ _ _ _ _ (heap_alloc2_new _ _ _)) Try.underlying40 rfl (by kernel_rfl)

set_option maxRecDepth 100000 in
set_option maxHeartbeats 1000000 in
theorem c9_any (m : Msg) (s : ByteArray) (n f : Int) (w : World) :
    Calls Try.prog 9 #[.string s, .int .u64 n, .agg m.cells, .int .i64 f] w fun e w' => e = .returned (.agg (probe m n f).cells) ∧ Below w.heap.size w w' := by
  have hlm : ∀ o : Obj, MAt (((w.alloc (.cells m.cells 40)).alloc (.cells zeroMsg.cells 40)).alloc o) w.heap.size 40 m := fun o => (Below.heap_alloc _ o _ (by simp; omega)).trans (heap_alloc2_old w _ _)
  have hlz : ∀ o : Obj, MAt (((w.alloc (.cells m.cells 40)).alloc (.cells zeroMsg.cells 40)).alloc o) (w.heap.size + 1) 40 zeroMsg := fun o => (Below.heap_alloc _ o _ (by simp)).trans (heap_alloc2_new w _ _)
  go_enter Try.func9, Try.ntmps9
  go_wp2_with (first | (refine wpList_box40 (m := m) rfl rfl rfl ?_) | (refine wpList_alloc40 rfl rfl ?_) | (refine wpList_loadM rfl rfl w.heap.size m rfl (hlm _) ?_))
  refine Calls.mono (c19_any m (w.heap.size + 1 + 1) n f _ ?_ ?_) ?_
  · rw [World.cell?_alloc_at _ _ _ _ (by simp)]; rfl
  · simp
  rintro e w3 ⟨rfl, hb⟩
  have hz3 : MAt w3 (w.heap.size + 1) 40 zeroMsg := (hlz _).below hb (by simp)
  have hb3 : Below w.heap.size w w3 := ((((Below.refl w.heap.size w).alloc (Nat.le_refl _) _).alloc (by simp) _).alloc (by simp; omega) _).trans (hb.mono (by simp; omega))
  clear hb hlm hlz
  go_wp2_with (first | (refine wpList_storeM rfl rfl (w.heap.size + 1) (probe m n f) zeroMsg rfl rfl hz3 ?_))
  refine bodyPost_ret (v := .agg (probe m n f).cells) ?_ rfl ⟨rfl, below_setRow hb3 _ _ (by omega)⟩
  exact results_cell_row (P := Try.prog) (p := 8) (ty := 40) (by kernel_rfl) _ _ (w.heap.size + 1) 40 _ (0, 0) _ rfl (setRow_heap _ _ _ _ _ _ hz3) Try.underlying40 rfl (by kernel_rfl)
end Go.Proofs.Qxb6616088a
