/-
  The length guards of the probe laws: they answer some bool; where 'too big' is refused the two rows are short.
-/
import Derived.Test.Qxb6616088aMem
namespace Go.Proofs.Qxb6616088a
open Go.RowKit

def Mem.cells (m : Mem) : List Value := [.string m.s0, .string m.s1, .int .i64 m.b, .string m.s3, .string m.s4, .string m.s5, .string m.s6, .string m.s7, .int .u64 m.n]
/-- n members lie behind an address. -/
def PathAt (w : World) (a : Option Addr) (n : Nat) (M : Nat → Mem) : Prop := ∀ i, i < n → ∃ b off, a = some ⟨b, off, none⟩ ∧ b < w.heap.size ∧ w.rangeAt b (off + i * 9) (M i).cells
/-- n numbers lie behind an address. -/
def AcksAt (w : World) (a : Option Addr) (n : Nat) (U : Nat → Int) : Prop := ∀ i, i < n → ∃ b off, a = some ⟨b, off, none⟩ ∧ b < w.heap.size ∧ w.cell? ⟨b, off + i, none⟩ = some (.int .u64 (U i))
theorem range_below {w w' : World} {B b o : Nat} {l : List Value} (h : w.rangeAt b o l) (hb : Below B w w') (hB : b < B) : w'.rangeAt b o l := by
  intro j v hj
  exact (hb.cell (p := ⟨b, _, none⟩) hB).trans (h j v hj)
theorem PathAt.below {w w' : World} {B n : Nat} {a : Option Addr} {M : Nat → Mem} (h : PathAt w a n M) (hb : Below B w w') (hB : ∀ b off, a = some ⟨b, off, none⟩ → b < B) : PathAt w' a n M := by
  intro i hi
  obtain ⟨b, off, e, hl, hr⟩ := h i hi
  exact ⟨b, off, e, Nat.lt_of_lt_of_le hl hb.size, range_below hr hb (hB b off e)⟩

/-- The nine cells of a member. -/
theorem range_mem {w : World} {b o : Nat} {m : Mem} (h : w.rangeAt b o m.cells) :
    w.cell? ⟨b, o, none⟩ = some (.string m.s0) ∧ w.cell? ⟨b, o + 1, none⟩ = some (.string m.s1) ∧ w.cell? ⟨b, o + 2, none⟩ = some (.int .i64 m.b) ∧ w.cell? ⟨b, o + 3, none⟩ = some (.string m.s3) ∧ w.cell? ⟨b, o + 4, none⟩ = some (.string m.s4) ∧
    w.cell? ⟨b, o + 5, none⟩ = some (.string m.s5) ∧ w.cell? ⟨b, o + 6, none⟩ = some (.string m.s6) ∧ w.cell? ⟨b, o + 7, none⟩ = some (.string m.s7) ∧ w.cell? ⟨b, o + 8, none⟩ = some (.int .u64 m.n) :=
  ⟨h 0 _ rfl, h 1 _ rfl, h 2 _ rfl, h 3 _ rfl, h 4 _ rfl, h 5 _ rfl, h 6 _ rfl, h 7 _ rfl, h 8 _ rfl⟩

set_option maxRecDepth 100000 in
set_option maxHeartbeats 2000000 in
theorem c8_any (m : Msg) (x : Int) (M : Nat → Mem) (w : World) (hP : PathAt w m.pa m.pl M) :
    Calls Try.prog 8 #[.agg m.cells, .int .i64 x] w fun e w' => ∃ b : Bool, e = .returned (.bool b) ∧ (b = false → m.pl ≤ 65536 ∧ m.al ≤ 131072) ∧ Below w.heap.size w w' := by
  have h1 : m.cells[1]? = some (.string m.f) := rfl
  have h2 : m.cells[2]? = some (.string m.t) := rfl
  have h3 : m.cells[3]? = some (.string m.ts) := rfl
  have h4 : m.cells[4]? = some (.string m.tn) := rfl
  have h5 : m.cells[5]? = some (.string m.rs) := rfl
  have h6 : m.cells[6]? = some (.string m.rp) := rfl
  have h9 : m.cells[9]? = some (.slice m.pa m.pl m.pc) := rfl
  have h10 : m.cells[10]? = some (.string m.cs) := rfl
  have h11 : m.cells[11]? = some (.string m.cn) := rfl
  have h12 : m.cells[12]? = some (.string m.ch) := rfl
  have h14 : m.cells[14]? = some (.string m.bo) := rfl
  have h19 : m.cells[19]? = some (.slice m.aa m.al m.ac) := rfl
  go_enter Try.func8, Try.ntmps8
  go_wp2_with (first | (refine wpList_box26 (m := m) rfl rfl rfl ?_))
  all_goals first
    | (go_ret
       exact ⟨true, rfl, fun h => absurd h.symm Bool.false_ne_true, (Below.refl _ _).alloc (Nat.le_refl _) _⟩)
    | skip
  go_loopw [5, 6] (fun n i wr => ∃ (z : Int) (k : Nat), n = .int .i64 z ∧ i = .int .i64 k ∧ k ≤ m.pl ∧ MAt wr w.heap.size 26 m ∧ Below w.heap.size w wr) (fun _ i _ => m.pl - (intOf i).toNat)
  case atStart => exact ⟨_, 0, rfl, rfl, by omega, heap_alloc_new _ _, (Below.refl _ _).alloc (Nat.le_refl _) _⟩
  case round =>
    obtain ⟨z, k, rfl, rfl, hk, hM, hB⟩ := hrel
    obtain ⟨wq, hwq⟩ : ∃ wq, wq = wr := ⟨_, rfl⟩
    subst hwq
    have hc9 := (hM.cell 9).trans h9
    have hsz := hM.lt
    by_cases hkn : k < m.pl
    · obtain ⟨b, off, ha, hl, hr⟩ := hP k hkn
      obtain ⟨r0, r1, r2, r3, r4, r5, r6, r7, r8⟩ := range_mem (range_below hr hB hl)
      rw [ha] at hc9
      have hbl : b < wq.heap.size := by omega
      clear hP h1 h2 h3 h4 h5 h6 h10 h11 h12 h14 h19 ha hr
      go_wp2_with fail
      · go_ret
        exact ⟨true, rfl, fun h => absurd h.symm Bool.false_ne_true, hB.alloc (by omega) _⟩
      · exact ⟨⟨_, k + 1, rfl, by simp, by omega, (Below.heap_alloc _ _ _ hsz).trans hM, hB.alloc (by omega) _⟩, by simp [intOf]; omega⟩
    · obtain rfl : k = m.pl := by omega
      have hshort : m.pl ≤ 65536 ∧ m.al ≤ 131072 := by omega
      clear hP h1 h2 h3 h4 h5 h6 h10 h11 h12 h14 h19
      go_wp2_with fail
      go_ret
      exact ⟨false, rfl, fun _ => hshort, hB⟩
end Go.Proofs.Qxb6616088a
