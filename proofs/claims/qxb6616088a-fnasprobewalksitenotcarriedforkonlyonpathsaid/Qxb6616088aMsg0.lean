/-
  toMessage: the same cells, the two rows anew.
-/
import Derived.Test.Qxb6616088aBig
import Derived.Deep.Upon
namespace Go.Proofs.Qxb6616088a
open Go.RowKit

theorem info72 : (Try.prog.info? 72).map (fun i => (i.zero, i.size)) = some (some (.agg #[.string ByteArray.empty, .string ByteArray.empty, .int .i64 0, .string ByteArray.empty, .string ByteArray.empty, .string ByteArray.empty, .string ByteArray.empty, .string ByteArray.empty, .int .u64 0]), 9) := by kernel_rfl
theorem bytes72 : ((Try.prog.info? 72).map (fun i => decide (i.bytes ≤ 1024))) = some true := by kernel_rfl
def pathCells (n : Nat) : Array Value := madeCells #[.string ByteArray.empty, .string ByteArray.empty, .int .i64 0, .string ByteArray.empty, .string ByteArray.empty, .string ByteArray.empty, .string ByteArray.empty, .string ByteArray.empty, .int .u64 0] (n * 9)
theorem run_make_path (n : Nat) (hn : n ≤ 65536) (w : World) :
    (Instr.makeSlice 36 (.int .i64 (n : Int)) (.int .i64 (n : Int))).run Try.prog w = .ok (.slice (some ⟨w.heap.size, 0, none⟩) n n) (w.alloc (.cells (pathCells n) 72)) := by
  obtain ⟨i, hi, hz⟩ := Option.map_eq_some_iff.1 info72
  simp only [Prod.mk.injEq] at hz
  obtain ⟨hz0, hz1⟩ := hz
  have hb0 : i.bytes ≤ 1024 := by
    have h := bytes72
    rw [hi] at h
    simpa using h
  have hb : (i.bytes : Int) * (n : Int) ≤ 281474976710656 := by
    have : i.bytes * n ≤ 1024 * 65536 := Nat.mul_le_mul hb0 hn
    have h2 : ((i.bytes * n : Nat) : Int) ≤ 281474976710656 := by omega
    rwa [Int.natCast_mul] at h2
  have hr := run_make (P := Try.prog) w 36 72 i _ Try.underlying36 hi hz0 .i64 .i64 n n (by omega) (by omega) hb (by omega)
  rw [hz1] at hr
  rw [hr]
  simp only [Int.toNat_natCast]
  rfl
theorem info23 : (Try.prog.info? 23).map (fun i => (i.zero, i.size, i.bytes)) = some (some (.int .u64 0), 1, 8) := by kernel_rfl
theorem run_make_acks (n : Nat) (hn : n ≤ 131072) (w : World) :
    (Instr.makeSlice 24 (.int .i64 (n : Int)) (.int .i64 (n : Int))).run Try.prog w = .ok (.slice (some ⟨w.heap.size, 0, none⟩) n n) (w.alloc (.cells (madeCells #[.int .u64 0] n) 23)) :=
  run_make_row' 24 23 (.int .u64 0) 8 Try.underlying24 info23 rfl .i64 .i64 n (by omega) (by omega) w

structure PFill (wr : World) (g n : Nat) (M : Nat → Mem) (k : Nat) : Prop where
  lt : g < wr.heap.size
  there : wr.there g 0 (n * 9)
  done : ∀ i, i < k → wr.rangeAt g (i * 9) (M i).cells
theorem there_of_block {w : World} {b : Nat} {C : Array Value} {t : TypeId} (h : w.heap[b]? = some (.cells C t (0, 0))) : w.there b 0 C.size := by
  intro j hj
  refine ⟨?_, frozen_of_row w b _ C t h⟩
  rw [cell_of_row w b _ C t (0, 0) h, Nat.zero_add, Array.getElem?_eq_getElem hj]
  rfl
theorem pfill_start (w : World) (n : Nat) (M : Nat → Mem) : PFill (w.alloc (.cells (pathCells n) 72)) w.heap.size n M 0 := by
  refine ⟨by simp, ?_, fun i hi => absurd hi (Nat.not_lt_zero i)⟩
  have h := there_of_block (w := w.alloc (.cells (pathCells n) 72)) (b := w.heap.size) (heap_alloc_new _ _)
  rwa [show (pathCells n).size = n * 9 from size_madeCells _ _] at h
theorem PFill.below {wr w2 : World} {g n k : Nat} {M : Nat → Mem} (h : PFill wr g n M k) (hb : Below wr.heap.size wr w2) : PFill w2 g n M k := by
  refine ⟨Nat.lt_of_lt_of_le h.lt hb.size, fun j hj => ?_, fun i hi => range_below (h.done i hi) hb h.lt⟩
  rw [hb.cell (p := ⟨g, _, none⟩) h.lt, hb.frozen (p := ⟨g, _, none⟩) h.lt]
  exact h.there j hj
theorem size_setCells (b : Nat) : ∀ (vs : List Value) (o : Nat) (w : World), (w.setCells b o vs).heap.size = w.heap.size
  | [], _, _ => rfl
  | v :: vs, o, w => by rw [World.setCells, size_setCells b vs]; simp [World.setCell]
theorem below_setCells {B : Nat} (b : Nat) (hB : B ≤ b) : ∀ (vs : List Value) (o : Nat) (a w : World), Below B a w → Below B a (w.setCells b o vs)
  | [], _, _, _, h => h
  | v :: vs, o, a, w, h => by rw [World.setCells]; exact below_setCells b hB vs _ a _ (h.setCell hB v)
theorem PFill.room {wr : World} {g n k : Nat} {M : Nat → Mem} (h : PFill wr g n M k) (hk : k < n) : wr.there g (k * 9) 9 := by
  intro j hj
  have := h.there (k * 9 + j) (by omega)
  rwa [Nat.zero_add] at this
theorem pfill_step {wr : World} {g n k : Nat} {M : Nat → Mem} (h : PFill wr g n M k) (hk : k < n) : PFill (wr.setCells g (k * 9) (M k).cells) g n M (k + 1) := by
  refine ⟨by rw [size_setCells]; exact h.lt, World.there_setCells h.there _ _ _, fun i hi => ?_⟩
  by_cases e : i = k
  · subst e
    exact World.rangeAt_setCells_same _ _ _ _ (h.room hk)
  · exact World.rangeAt_setCells_apart (h.done i (by omega)) _ _ _ (Or.inr (Or.inl (by show i * 9 + 9 ≤ k * 9; omega)))
theorem MAt.setCells {wr : World} {g b T : Nat} {m : Msg} (h : MAt wr g T m) (hne : g ≠ b) (o : Nat) (vs : List Value) : MAt (wr.setCells b o vs) g T m :=
  (World.heap_setCells_other wr b o vs h.lt hne).trans h

structure AFill (wr : World) (g n : Nat) (U : Nat → Int) (k : Nat) : Prop where
  row : ∃ f, wr.rowIs g 23 n f ∧ ∀ i, i < k → f i = .int .u64 (U i)
theorem afill_start (w : World) (n : Nat) (U : Nat → Int) : AFill (w.alloc (.cells (madeCells #[.int .u64 0] n) 23)) w.heap.size n U 0 :=
  ⟨_, World.rowIs_made w (.int .u64 0) n 23, fun i hi => absurd hi (Nat.not_lt_zero i)⟩
theorem afill_step {wr : World} {g n k : Nat} {U : Nat → Int} (h : AFill wr g n U k) : AFill (wr.setCell ⟨g, k, none⟩ (.int .u64 (U k))) g n U (k + 1) := by
  obtain ⟨f, hr, hf⟩ := h
  refine ⟨_, hr.set k _, fun i hi => ?_⟩
  by_cases e : i = k
  · subst e; exact if_pos rfl
  · show (if i = k then _ else f i) = _
    rw [if_neg e]
    exact hf i (by omega)

/-- r is m but for Kind, Walk, Fork and where the two rows lie. -/
structure Like (r m : Msg) : Prop where
  rest : r = { m with k := r.k, wa := r.wa, fo := r.fo, pa := r.pa, pc := r.pc, aa := r.aa, ac := r.ac }
  pnil : r.pa.isNone = m.pa.isNone
  anil : r.aa.isNone = m.aa.isNone
def Copied (w : World) (m : Msg) (M : Nat → Mem) (U : Nat → Int) (e : Ending) (w' : World) : Prop :=
  ∃ r : Msg, e = .returned (.agg r.cells) ∧ Like r m ∧ r.k = m.k ∧ r.wa = m.wa ∧ r.fo = m.fo ∧ PathAt w' r.pa r.pl M ∧ AcksAt w' r.aa r.al U ∧ Below w.heap.size w w'

theorem build40 (m : Msg) (w : World) : (Instr.build 40 #[(0, .int .u8 m.k), (1, .string m.f), (2, .string m.t), (3, .agg #[.string m.ts, .string m.tn]), (4, .agg #[.string m.rs, .string m.rp]), (5, .int .u8 m.mo), (6, .int .i64 m.bg), (7, .slice m.pa m.pl m.pc), (8, .agg #[.string m.cs, .string m.cn, .string m.ch]), (9, .int .u64 m.nu), (10, .string m.bo), (11, .int .u64 m.wa), (12, .int .u64 m.fo), (13, .int .u64 m.un), (14, .int .u64 m.sq), (15, .slice m.aa m.al m.ac), (16, .int .i64 m.fe), (17, .int .i64 m.te), (18, .int .i64 m.cl)]).run Try.prog w = .ok (.agg m.cells) w :=
  run_build w 40 _ _ (by kernel_rfl)
end Go.Proofs.Qxb6616088a
