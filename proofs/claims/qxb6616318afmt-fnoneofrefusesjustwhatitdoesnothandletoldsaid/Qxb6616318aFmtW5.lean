/-
  Rows of strings that the law makes: make, copy, append.
-/
import Derived.Test.Qxb6616318aFmtW4
import Derived.Laws.CopyOwn
import Derived.Deep.OwnRows
import Derived.Deep.Upon
namespace Go.Proofs.Qxb6616318aFmt
open Go.RowKit

theorem info9 : (Tryf.prog.info? 9).map (fun i => (i.zero, i.size, i.bytes)) = some (some (.string ByteArray.empty), 1, 16) := by kernel_rfl
theorem size9 : (Tryf.prog.info? 9).map (·.size) = some 1 := by kernel_rfl
theorem run_make_strs (n : Nat) (hn : n ≤ 1048577) (w : World) :
    (Instr.makeSlice 22 (.int .i64 (n : Int)) (.int .i64 (n : Int))).run Tryf.prog w = .ok (.slice (some ⟨w.heap.size, 0, none⟩) n n) (w.alloc (.cells (madeCells #[.string ByteArray.empty] n) 9)) :=
  run_make_row' 22 9 (.string ByteArray.empty) 16 Tryf.underlying22 info9 rfl .i64 .i64 n (by omega) (by omega) w
theorem run_make_room (n : Nat) (hn : n ≤ 1048576) (w : World) :
    (Instr.makeSlice 22 (.int .i64 0) (.int .i64 ((n : Int) + 1))).run Tryf.prog w = .ok (.slice (some ⟨w.heap.size, 0, none⟩) 0 (n + 1)) (w.alloc (.cells (madeCells #[.string ByteArray.empty] (n + 1)) 9)) := by
  obtain ⟨i, hi, hzz⟩ := Option.map_eq_some_iff.1 info9
  simp only [Prod.mk.injEq] at hzz
  obtain ⟨hz, hs, hb⟩ := hzz
  have h := run_make (P := Tryf.prog) w 22 9 i _ Tryf.underlying22 hi hz .i64 .i64 0 ((n : Int) + 1) (by omega) (by omega) (by rw [hb]; omega) (by omega)
  rw [h, hs]
  have e : ((n : Int) + 1).toNat = n + 1 := by omega
  rw [e]
  simp only [Nat.mul_one]
  rfl

/-- Block g is a row of cap strings, of which the first ones are these. -/
structure Row (w : World) (g cap : Nat) (ys : List ByteArray) : Prop where
  row : ∃ cur : Array Value, w.heap[g]? = some (.cells cur 9 (0, 0)) ∧ cur.size = cap ∧ cur.toList.take ys.length = ys.map .string
  le : ys.length ≤ cap
theorem Row.lt {w : World} {g cap : Nat} {ys : List ByteArray} (h : Row w g cap ys) : g < w.heap.size := by
  obtain ⟨cur, hg, _⟩ := h.row
  exact (Array.getElem?_eq_some_iff.1 hg).1
theorem Row.below {w w' : World} {g cap B : Nat} {ys : List ByteArray} (h : Row w g cap ys) (hb : Below B w w') (hg : g < B) : Row w' g cap ys := by
  obtain ⟨⟨cur, h1, h2⟩, h3⟩ := h
  exact ⟨⟨cur, (hb.block g hg).trans h1, h2⟩, h3⟩
theorem Row.cell {w : World} {g cap : Nat} {ys : List ByteArray} (h : Row w g cap ys) (j : Nat) (x : ByteArray) (hj : ys[j]? = some x) : w.cell? ⟨g, j, none⟩ = some (.string x) := by
  obtain ⟨⟨cur, h1, h2, h3⟩, h4⟩ := h
  rw [cell_of_row w g j cur 9 (0, 0) h1]
  have hjl : j < ys.length := (List.getElem?_eq_some_iff.1 hj).1
  have h5 : (cur.toList.take ys.length)[j]? = some (.string x) := by rw [h3, List.getElem?_map, hj]; rfl
  rw [List.getElem?_take, if_pos hjl] at h5
  simpa using h5
theorem Row.strs {w : World} {g cap : Nat} {ys : List ByteArray} (h : Row w g cap ys) : StrsAt w (some ⟨g, 0, none⟩) ys :=
  fun j x hj => ⟨g, 0, rfl, h.lt, by rw [Nat.zero_add]; exact h.cell j x hj⟩
theorem Row.take {w : World} {g cap : Nat} {ys : List ByteArray} (h : Row w g cap ys) (k : Nat) : StrsAt w (some ⟨g, 0, none⟩) (ys.take k) :=
  fun j x hj => ⟨g, 0, rfl, h.lt, by
    rw [Nat.zero_add]
    refine h.cell j x ?_
    rw [List.getElem?_take] at hj
    split at hj
    · exact hj
    · cases hj⟩
theorem Row.drop {w : World} {g cap : Nat} {ys : List ByteArray} (h : Row w g cap ys) (k : Nat) : StrsAt w (some ⟨g, k, none⟩) (ys.drop k) :=
  fun j x hj => ⟨g, k, rfl, h.lt, h.cell (k + j) x (by rw [List.getElem?_drop] at hj; exact hj)⟩
theorem row_made (w : World) (n : Nat) : Row (w.alloc (.cells (madeCells #[.string ByteArray.empty] n) 9)) w.heap.size n [] :=
  ⟨⟨_, heap_alloc_new _ _, size_madeCells _ _, by simp⟩, Nat.zero_le _⟩

theorem wpList_append_strs {ops : Array Oper} {rest : List Oper} {o : Oper} {a : Act} {w : World} {Q : Exit → Act → World → Prop} (hgd : o.guard = none) (s x : Operand)
    (ho : o.op = .call { callee := .builtin .append, args := #[s, x], argTypes := #[22, 22] }) (g n cap : Nat) (ys news : List ByteArray) (ao : Option Addr) (m c : Nat)
    (hs : a.eval s = .slice (some ⟨g, 0, none⟩) n cap) (hx : a.eval x = .slice ao m c) (hn : n = ys.length) (hm : m = news.length) (hrow : Row w g cap ys) (hnews : StrsAt w ao news) (hroom : n + m ≤ cap)
    (h : ∀ w', Row w' g cap (ys ++ news) → Below g w w' → wpList Tryf.prog ops Q rest (a.put o.dst (.slice (some ⟨g, 0, none⟩) (n + m) cap)) w') : wpList Tryf.prog ops Q (o :: rest) a w := by
  refine wpList_plain hgd fun K hK => ?_
  obtain ⟨i, hi, hzz⟩ := Option.map_eq_some_iff.1 info9
  simp only [Prod.mk.injEq] at hzz
  obtain ⟨hz, hsz, hb⟩ := hzz
  obtain ⟨cur, hg, hcs, htk⟩ := hrow.row
  have hrun : ∃ w', (Builtin.append_ #[22, 22] o.type #[.slice (some ⟨g, 0, none⟩) n cap, .slice ao m c]).run Tryf.prog w = .ok (.slice (some ⟨g, 0, none⟩) (n + m) cap) w' ∧ Row w' g cap (ys ++ news) ∧ Below g w w' := by
    cases news with
    | nil =>
      simp only [List.length_nil] at hm
      subst hm
      refine ⟨w, ?_, by rw [List.append_nil]; exact hrow, Below.refl _ _⟩
      have hnc : n ≤ cap := hroom
      cases ao <;> simp [Builtin.append_, run_underlying Tryf.underlying22, sizeOf, typeInfo, hi, Builtin.lenOf, Builtin.firstCells, loadCells, loadCellsFrom, hnc, storeCells]
    | cons y r =>
      obtain ⟨b, off, rfl, hl, hcell⟩ := hnews.cons
      have hr := run_append_room (P := Tryf.prog) w 22 o.type 9 i Tryf.underlying22 hi g n cap cur hg ⟨b, off, none⟩ m c ((y :: r).map .string) (by rw [hsz, List.length_map, hm]; omega)
        (fun j u hu => by
          rw [List.getElem?_map] at hu
          obtain ⟨z, hz1, rfl⟩ := Option.map_eq_some_iff.1 hu
          have h1 := hcell j z hz1
          cases j <;> simpa [Addr.add] using h1)
        (fun u hu => by
          obtain ⟨z, _, rfl⟩ := List.mem_map.1 hu
          rfl) hroom (by rw [hsz, List.length_map, hcs]; omega)
      refine ⟨_, hr, ?_, ?_⟩
      · refine ⟨⟨_, setRow_heap w g cur _ 9 _ hg, ?_, ?_⟩, by rw [List.length_append]; omega⟩
        · simp only [List.size_toArray, List.length_append, List.length_take, List.length_drop, Array.length_toList, List.length_map, hsz]
          omega
        · rw [hsz, Nat.mul_one, hn, htk, List.length_append, ← List.map_append, List.toList_toArray, ← List.length_append]
          rw [← List.length_map (f := Value.string)]
          exact List.take_left
      · exact below_setRow (Below.refl _ _) (Nat.le_refl _) _
  obtain ⟨w', hrun, h1, h2⟩ := hrun
  unfold Oper.wp
  simp [execOp, ho, resolve, invoke, builtin, hs, hx, hrun, Result.andThen]
  exact hK _ _ (h w' h1 h2)

theorem wpList_copy_strs {ops : Array Oper} {rest : List Oper} {o : Oper} {a : Act} {w : World} {Q : Exit → Act → World → Prop} (hgd : o.guard = none) (d s : Operand)
    (ho : o.op = .call { callee := .builtin .copy, args := #[d, s], argTypes := #[22, 22] }) (g : Nat) (xs : List ByteArray) (ao : Option Addr) (c : Nat)
    (hd : a.eval d = .slice (some ⟨g, 0, none⟩) xs.length xs.length) (hs : a.eval s = .slice ao xs.length c) (hrow : Row w g xs.length []) (hnews : StrsAt w ao xs)
    (h : ∀ w', Row w' g xs.length xs → Below g w w' → wpList Tryf.prog ops Q rest (a.put o.dst (goInt xs.length)) w') : wpList Tryf.prog ops Q (o :: rest) a w := by
  obtain ⟨⟨cur, hg, hcs, _⟩, _⟩ := hrow
  obtain ⟨l⟩ := cur
  have hll : l.length = xs.length := by simpa using hcs
  refine wpList_copy_splice hgd d s 22 22 ho 9 Tryf.underlying22 size9 _ _ _ _ _ _ hd hs g 0 l 9 hg (xs.map .string) (by rw [List.length_map]; exact (Nat.min_self _).symm) ?_ (by rw [List.length_map]; omega)
    (fun u hu => by
      obtain ⟨z, _, rfl⟩ := List.mem_map.1 hu
      rfl) g w (Below.refl _ _) (Nat.le_refl _) ?_
  · intro hpos
    cases xs with
    | nil => simp at hpos
    | cons y r =>
      obtain ⟨b, off, rfl, hl, hcell⟩ := hnews.cons
      refine ⟨rfl, _, rfl, fun j u hu => ?_⟩
      rw [List.getElem?_map] at hu
      obtain ⟨z, hz1, rfl⟩ := Option.map_eq_some_iff.1 hu
      have h1 := hcell j z hz1
      cases j <;> simpa [Addr.add] using h1
  · intro w' hg' hb'
    have hg2 := hg'.out
    rw [List.length_map]
    refine h w' ⟨⟨_, hg2, ?_, ?_⟩, Nat.le_refl _⟩ hb'
    · simp [splice]; omega
    · have e : splice l 0 (xs.map Value.string) = xs.map Value.string := by
        unfold splice
        rw [List.take_zero, List.nil_append, Nat.zero_add, List.drop_of_length_le (by rw [List.length_map]; omega), List.append_nil]
      rw [e, List.toList_toArray, ← List.length_map (f := Value.string)]
      exact List.take_length
end Go.Proofs.Qxb6616318aFmt
