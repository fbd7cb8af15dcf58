/-
  The requests that the laws lay: one a name.
-/
import Derived.Test.Qxb6616082aGet
import Derived.Test.Qxb6616082aPlain
import Derived.LaidEql
namespace Go.Proofs.Qxb6616082a
open Go.RowKit

theorem info28 : (Try.prog.info? 28).map (fun i => (i.zero, i.size, i.bytes)) = some (some (.agg #[.int .u64 0, .int .u64 0, .int .u64 0, .int .u64 0, .string ByteArray.empty, .slice none 0 0]), 6, 72) := by kernel_rfl

/-- The cells of n zero requests. -/
def reqCells (n : Nat) : Array Value := madeCells #[.int .u64 0, .int .u64 0, .int .u64 0, .int .u64 0, .string ByteArray.empty, .slice none 0 0] (n * 6)

theorem run_make_reqs (n : Nat) (hn : n ≤ 65536) (w : World) :
    (Instr.makeSlice 25 (.int .i64 (n : Int)) (.int .i64 (n : Int))).run Try.prog w = .ok (.slice (some ⟨w.heap.size, 0, none⟩) n n) (w.alloc (.cells (reqCells n) 28)) := by
  obtain ⟨i, hi, hz0, hz1, hz2⟩ := info_parts info28
  have hb : (i.bytes : Int) * (n : Int) ≤ 281474976710656 := by rw [hz2]; omega
  have hr := run_make (P := Try.prog) w 25 28 i _ Try.underlying25 hi hz0 .i64 .i64 n n (by omega) (by omega) hb (by omega)
  rw [hz1] at hr
  rw [hr]
  simp only [Int.toNat_natCast]
  rfl

/-- Cell j of the requests when the first k names have been laid. -/
def reqF (ss : List ByteArray) (k j : Nat) : Value :=
  if j % 6 = 4 then .string (if j / 6 < k then ss.getD (j / 6) ByteArray.empty else ByteArray.empty) else if j % 6 = 5 then .slice none 0 0 else .int .u64 0

structure Fill (w wr : World) (ss : List ByteArray) (k : Nat) : Prop where
  below : Below w.heap.size w wr
  size : wr.heap.size = w.heap.size + 1
  row : wr.rowIs w.heap.size 28 (ss.length * 6) (reqF ss k)

theorem fill_start (w : World) (ss : List ByteArray) : Fill w (w.alloc (.cells (reqCells ss.length) 28)) ss 0 := by
  refine ⟨(Below.refl _ _).alloc (Nat.le_refl _) _, by simp, ⟨reqCells ss.length, heap_alloc_new w _, size_madeCells _ _, fun i hi => ?_⟩⟩
  have h6 : i % 6 < 6 := Nat.mod_lt _ (by omega)
  simp only [reqCells, madeCells]
  rw [Array.getElem?_map, Array.getElem?_eq_getElem (by simpa using hi)]
  simp only [Array.getElem_range, Option.map_some, reqF]
  generalize i % 6 = r at h6 ⊢
  match r, h6 with
  | 0, _ => rfl
  | 1, _ => rfl
  | 2, _ => rfl
  | 3, _ => rfl
  | 4, _ => rfl
  | 5, _ => rfl

theorem fill_step {w wr : World} {ss : List ByteArray} {k : Nat} (h : Fill w wr ss k) (hk : k < ss.length) : Fill w (wr.setCell ⟨w.heap.size, k * 6 + 4, none⟩ (.string ss[k])) ss (k + 1) := by
  refine ⟨h.below.setCell (Nat.le_refl _) _, by simp [World.setCell]; exact h.size, (h.row.set (k * 6 + 4) _).congr fun j _ => ?_⟩
  by_cases e : j = k * 6 + 4
  · subst e
    have e1 : (k * 6 + 4) % 6 = 4 := by omega
    have e2 : (k * 6 + 4) / 6 = k := by omega
    simp [reqF, e1, e2, hk]
  · rw [if_neg e]
    unfold reqF
    by_cases e4 : j % 6 = 4
    · rw [if_pos e4, if_pos e4]
      by_cases hjk : j / 6 < k
      · rw [if_pos hjk, if_pos (by omega)]
      · rw [if_neg hjk, if_neg (by omega)]
    · rw [if_neg e4, if_neg e4]

theorem Fill.cell {w wr : World} {ss : List ByteArray} {k : Nat} (h : Fill w wr ss k) (hk : k < ss.length) :
    wr.cell? ⟨w.heap.size, k * 6 + 4, none⟩ = some (reqF ss k (k * 6 + 4)) ∧ wr.frozen? ⟨w.heap.size, k * 6 + 4, none⟩ = false :=
  ⟨h.row.cell (by omega), h.row.frozen _⟩

theorem Fill.reqs {w wr : World} {ss : List ByteArray} (h : Fill w wr ss ss.length) : ReqAt wr w.heap.size ss := by
  intro i hi
  have e0 : (i * 6) % 6 = 0 := by omega
  have e1 : (i * 6 + 1) % 6 = 1 := by omega
  have e2 : (i * 6 + 2) % 6 = 2 := by omega
  have e3 : (i * 6 + 3) % 6 = 3 := by omega
  have e4 : (i * 6 + 4) % 6 = 4 := by omega
  have e5 : (i * 6 + 5) % 6 = 5 := by omega
  have d4 : (i * 6 + 4) / 6 = i := by omega
  refine ⟨?_, ?_, ?_, ?_, ?_, ?_⟩
  · rw [h.row.cell (by omega)]; simp [reqF]
  · rw [h.row.cell (by omega)]; simp [reqF, e1]
  · rw [h.row.cell (by omega)]; simp [reqF, e2]
  · rw [h.row.cell (by omega)]; simp [reqF, e3]
  · rw [h.row.cell (by omega)]; simp [reqF, e4, d4, hi]
  · rw [h.row.cell (by omega)]; simp [reqF, e5]

/-- The joiner and the batch, just made. -/
theorem jat_start {w wr : World} {ss : List ByteArray} (h : Fill w wr ss ss.length) (r i n : Int) :
    let w1 := wr.alloc (.cells #[.int .u64 r, .int .i64 i, .int .u64 n, .slice (some ⟨w.heap.size, 0, none⟩) ss.length ss.length] 45)
    let w2 := w1.alloc (.cells #[.slice none 0 0, .bool false, .int .u64 0, .int .i64 0, .pointer none, .map none, .map none, .map none, .slice none 0 0, .int .i64 0] 54)
    Below w.heap.size w w2 ∧ w2.heap.size = wr.heap.size + 2 ∧ BatchAt w2 wr.heap.size w.heap.size ss ∧ ∀ bw, JAt w2 (wr.heap.size + 1) wr.heap.size bw [] := by
  have hs := h.size
  have hb1 : Below wr.heap.size wr (wr.alloc (.cells #[.int .u64 r, .int .i64 i, .int .u64 n, .slice (some ⟨w.heap.size, 0, none⟩) ss.length ss.length] 45)) := (Below.refl _ _).alloc (Nat.le_refl _) _
  refine ⟨(h.below.alloc (by omega) _).alloc (by simp; omega) _, by simp, ⟨?_, ?_⟩, fun bw => ⟨none, 0, ?_, .inl ⟨rfl, rfl, rfl⟩, ?_, ?_, ?_⟩⟩
  · rw [World.cell?_alloc_past _ _ _ (by simp), World.cell?_alloc_at _ _ _ _ (by omega)]; rfl
  · intro k hk
    have hb2 : Below wr.heap.size wr ((wr.alloc (.cells #[.int .u64 r, .int .i64 i, .int .u64 n, .slice (some ⟨w.heap.size, 0, none⟩) ss.length ss.length] 45)).alloc (.cells #[.slice none 0 0, .bool false, .int .u64 0, .int .i64 0, .pointer none, .map none, .map none, .map none, .slice none 0 0, .int .i64 0] 54)) := hb1.alloc (by simp) _
    obtain ⟨c0, c1, c2, c3, c4, c5⟩ := h.reqs k hk
    rw [← hb2.cell (p := ⟨w.heap.size, _, none⟩) (by simp; omega)] at c0 c1 c2 c3 c4 c5
    exact ⟨c0, c1, c2, c3, c4, c5⟩
  · rw [World.cell?_alloc_at _ _ _ _ (by simp)]; rfl
  · rw [World.cell?_alloc_at _ _ _ _ (by simp)]; rfl
  · rw [World.frozen?_alloc_at _ _ _ _ (by simp)]
  · rw [World.frozen?_alloc_at _ _ _ _ (by simp)]

theorem info45 : (Try.prog.info? 45).isSome = true := by kernel_rfl
theorem eqIn_ptr (d : Nat) (a : Addr) (w : World) : (Op.equalIn (d + 1) 29 (.pointer (some a)) (.pointer (some a))).run Try.prog w = .ok true w := by
  obtain ⟨i, hi⟩ := Option.isSome_iff_exists.1 info45
  simp [Op.equalIn, run_underlying Try.underlying29, typeInfo, sizeOf, run_sameAddr_same, hi]
theorem neq_ptr (a : Addr) (w : World) : (binOp .neq 29 (.pointer (some a)) (.pointer (some a))).run Try.prog w = .ok (.bool false) w := by
  simp only [binOp]
  simp [Op.equal, Op.maxDepth, eqIn_ptr 9999 a w]
end Go.Proofs.Qxb6616082a
