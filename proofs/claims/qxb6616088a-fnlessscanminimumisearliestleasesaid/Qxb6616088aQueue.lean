/-
  The queue that the laws build.
-/
import Derived.Test.Qxb6616088aLeaf
namespace Go.Proofs.Qxb6616088a
open Go.RowKit

theorem info74 : (Try.prog.info? 74).map (fun i => (i.zero, i.size, i.bytes)) = some (some (.pointer none), 1, 8) := by kernel_rfl
theorem run_make_q (n : Nat) (hn : n ≤ 65536) (w : World) :
    (Instr.makeSlice 50 (.int .i64 (n : Int)) (.int .i64 (n : Int))).run Try.prog w = .ok (.slice (some ⟨w.heap.size, 0, none⟩) n n) (w.alloc (.cells (madeCells #[.pointer none] n) 74)) :=
  run_make_row' 50 74 (.pointer none) 8 Try.underlying50 info74 rfl .i64 .i64 n (by omega) (by omega) w

/-- The first k places of the queue have been laid. -/
structure QFill (w wr : World) (n : Nat) (E B : Nat → Int) (k : Nat) : Prop where
  below : Below w.heap.size w wr
  row : ∃ f, wr.rowIs w.heap.size 74 n f ∧ ∀ i, i < k → ∃ t, f i = .pointer (some ⟨t, 0, none⟩) ∧ w.heap.size < t ∧ t < wr.heap.size ∧ wr.cell? ⟨t, 16, none⟩ = some (.int .i64 (E i)) ∧ wr.cell? ⟨t, 2, none⟩ = some (.int .i64 (B i))

theorem qfill_start (w : World) (n : Nat) (E B : Nat → Int) : QFill w (w.alloc (.cells (madeCells #[.pointer none] n) 74)) n E B 0 :=
  ⟨(Below.refl _ _).alloc (Nat.le_refl _) _, _, World.rowIs_made w (.pointer none) n 74, fun i hi => absurd hi (Nat.not_lt_zero i)⟩

theorem qfill_step {w wr w2 : World} {n k m : Nat} {E B : Nat → Int} (h : QFill w wr n E B k) (hw2 : w2 = (wr.drewN m).alloc (.cells (txnCells (E k) (B k)) 88)) :
    QFill w (w2.setCell ⟨w.heap.size, k, none⟩ (.pointer (some ⟨wr.heap.size, 0, none⟩))) n E B (k + 1) := by
  obtain ⟨hb, f, hr, hx⟩ := h
  have hlt : w.heap.size < wr.heap.size := hr.lt
  subst hw2
  have hb1 : Below wr.heap.size wr ((wr.drewN m).alloc (.cells (txnCells (E k) (B k)) 88)) := Below.alloc (a := wr) (w := wr.drewN m) ⟨rfl, rfl, rfl, Nat.le_refl _, fun _ _ => rfl⟩ (Nat.le_refl _) _
  have hr1 : ((wr.drewN m).alloc (.cells (txnCells (E k) (B k)) 88)).rowIs w.heap.size 74 n f := World.rowIs.alloc (w := wr.drewN m) hr _
  have hne : ∀ t : Nat, w.heap.size < t → ∀ j, (⟨t, j, none⟩ : Addr) ≠ ⟨w.heap.size, k, none⟩ := fun t ht j h => by
    have := congrArg Addr.block h
    simp at this
    omega
  refine ⟨(hb.trans (hb1.mono (by omega))).setCell (Nat.le_refl _) _, _, hr1.set k _, fun i hi => ?_⟩
  by_cases e : i = k
  · subst e
    refine ⟨wr.heap.size, if_pos rfl, hlt, by simp [World.setCell], ?_, ?_⟩
    · rw [World.cell?_setCell_other _ _ _ _ (hne _ hlt _).symm, World.cell?_alloc_at _ _ _ _ (by simp)]; rfl
    · rw [World.cell?_setCell_other _ _ _ _ (hne _ hlt _).symm, World.cell?_alloc_at _ _ _ _ (by simp)]; rfl
  · obtain ⟨t, ht, t0, t1, t2, t3⟩ := hx i (by omega)
    refine ⟨t, by simp [e, ht], t0, by simp [World.setCell]; omega, ?_, ?_⟩
    · rw [World.cell?_setCell_other _ _ _ _ (hne _ t0 _).symm, hb1.cell (p := ⟨t, 16, none⟩) t1]; exact t2
    · rw [World.cell?_setCell_other _ _ _ _ (hne _ t0 _).symm, hb1.cell (p := ⟨t, 2, none⟩) t1]; exact t3

theorem QFill.q {w wr : World} {n : Nat} {E B : Nat → Int} (h : QFill w wr n E B n) : QAt wr w.heap.size n E B := by
  obtain ⟨_, f, hr, hx⟩ := h
  intro i hi
  obtain ⟨t, ht, _, _, t2, t3⟩ := hx i hi
  exact ⟨t, by rw [hr.cell hi, ht], t2, t3⟩

theorem QFill.cell {w wr : World} {n k : Nat} {E B : Nat → Int} (h : QFill w wr n E B k) (hk : k < n) : ∃ v, wr.cell? ⟨w.heap.size, k, none⟩ = some v ∧ wr.frozen? ⟨w.heap.size, k, none⟩ = false := by
  obtain ⟨_, f, hr, _⟩ := h
  exact ⟨_, hr.cell hk, hr.frozen _⟩

theorem qfill_cell {w wr w2 : World} {n k m : Nat} {E B : Nat → Int} (h : QFill w wr n E B k) (hw2 : w2 = (wr.drewN m).alloc (.cells (txnCells (E k) (B k)) 88)) (j : Nat) :
    w2.cell? ⟨w.heap.size, j, none⟩ = wr.cell? ⟨w.heap.size, j, none⟩ ∧ w2.frozen? ⟨w.heap.size, j, none⟩ = wr.frozen? ⟨w.heap.size, j, none⟩ := by
  obtain ⟨_, f, hr, _⟩ := h
  subst hw2
  have hb1 : Below wr.heap.size wr ((wr.drewN m).alloc (.cells (txnCells (E k) (B k)) 88)) := Below.alloc (a := wr) (w := wr.drewN m) ⟨rfl, rfl, rfl, Nat.le_refl _, fun _ _ => rfl⟩ (Nat.le_refl _) _
  exact ⟨hb1.cell (p := ⟨w.heap.size, j, none⟩) hr.lt, hb1.frozen (p := ⟨w.heap.size, j, none⟩) hr.lt⟩

set_option maxRecDepth 100000 in
set_option maxHeartbeats 1600000 in
theorem c16_any (x o n c : Nat) (E B : Nat → Int) (w : World) (hn : n ≤ 65536) (hL : LeaseAt w x o n E B) (hx : x < w.heap.size) :
    Calls Try.prog 16 #[.slice (some ⟨x, o, none⟩) n c] w fun e w' => e = .returned (.slice (some ⟨w.heap.size, 0, none⟩) n n) ∧ QAt w' w.heap.size n E B ∧ Below w.heap.size w w' := by
  have hmk := run_make_q n hn
  go_enter Try.func16, Try.ntmps16
  go_wp2_with fail
  go_loopw [4] (fun i wr => ∃ k : Nat, k ≤ n ∧ i = .int .i64 k ∧ QFill w wr n E B k) (fun i _ => n - (intOf i).toNat)
  case atStart => exact ⟨0, by omega, rfl, qfill_start w n E B⟩
  case round =>
    obtain ⟨k, hk, rfl, hF⟩ := hrel
    obtain ⟨wq, hwq⟩ : ∃ wq, wq = wr := ⟨_, rfl⟩
    subst hwq
    by_cases hkn : k < n
    · have hc := (hF.below.cell (p := ⟨x, o + k * 2, none⟩) hx).trans (hL k hkn).1
      have hd := (hF.below.cell (p := ⟨x, o + k * 2 + 1, none⟩) hx).trans (hL k hkn).2
      obtain ⟨v, hv, hz⟩ := hF.cell hkn
      go_wp2_with fail
      go_region_with ((go_at_call 21; refine (c21_any (E k) (B k) wq.drew).mono ?_; rintro e w2 ⟨rfl, hw2⟩; have hv' : w2.cell? ⟨w.heap.size, k, none⟩ = some v := (qfill_cell (m := 1) hF hw2 k).1.trans hv; have hz' : w2.frozen? ⟨w.heap.size, k, none⟩ = false := (qfill_cell (m := 1) hF hw2 k).2.trans hz; have hw3 : Hid _ := hw2; clear hw2))
      all_goals
        go_wp2_with fail
        go_roundw
        case rel => exact ⟨k + 1, by omega, by simp, qfill_step (m := 1) hF hw3⟩
        case measure => simp [intOf]; omega
    · obtain rfl : k = n := by omega
      have hq := hF.q
      have hb := hF.below
      go_wp2_with fail
      go_ret
      exact ⟨rfl, hq, hb⟩
end Go.Proofs.Qxb6616088a
