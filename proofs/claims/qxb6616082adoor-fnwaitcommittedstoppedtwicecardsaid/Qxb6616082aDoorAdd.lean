/-
  The replica in memory; a waiter added.
-/
import Derived.Test.Qxb6616082aDoorDel
import Derived.Deep.RegionLaw
import Derived.Deep.AppendLies
import Derived.Deep.DrawnRows
namespace Go.Proofs.Qxb6616082aDoor
open Go.RowKit Go.Conc
attribute [local go_sem ↓] Go.wp_at_zero Go.wp_at_succ

def wCells (ws : List (Int × Nat)) : List Value := ws.flatMap fun e => [.int .u64 e.1, .chan (some e.2)]
theorem wCells_length (ws : List (Int × Nat)) : (wCells ws).length = ws.length * 2 := by
  induction ws with
  | nil => rfl
  | cons e r ih => simp [wCells] at *; omega
theorem wCells_snoc (ws : List (Int × Nat)) (t : Int) (c : Nat) : wCells (ws ++ [(t, c)]) = wCells ws ++ [.int .u64 t, .chan (some c)] := by simp [wCells]
theorem wCells_at (ws : List (Int × Nat)) (i : Nat) (h : i < ws.length) : (wCells ws)[i * 2]? = some (.int .u64 ws[i].1) ∧ (wCells ws)[i * 2 + 1]? = some (.chan (some ws[i].2)) := by
  induction ws generalizing i with
  | nil => simp at h
  | cons e r ih =>
    cases i with
    | zero => simp [wCells]
    | succ k =>
      have := ih k (by simpa using h)
      have e1 : (k + 1) * 2 = k * 2 + 2 := by omega
      simpa [wCells, e1] using this

/-- The replica in block br: stopped (its channel: block bs), the lock's word m, the waiters ws. -/
structure RepAt (w : World) (br bs : Nat) (s : Int) (ws : List (Int × Nat)) (m : Int) : Prop where
  stop : w.cell? ⟨br, 5, none⟩ = some (.chan (some bs))
  shut : w.heap[bs]? = some (.chan 0 #[] true 0 0 false)
  mu : w.cell? ⟨br, 67, none⟩ = some (.int .i32 m)
  settled : w.cell? ⟨br, 73, none⟩ = some (.int .u64 s)
  waiters : ∃ ao cap, w.cell? ⟨br, 76, none⟩ = some (.slice ao ws.length cap) ∧ w.ownsRow (br + 1) 97 2 (.slice ao ws.length cap) ws.length (wCells ws)
  froz : ∀ o, w.frozen? ⟨br, o, none⟩ = false
  lt : br < w.heap.size
  ord : bs < br
  chans : ∀ x ∈ ws, x.2 < w.heap.size

theorem RepAt.below {w w' : World} {br bs : Nat} {s m : Int} {ws : List (Int × Nat)} (h : RepAt w br bs s ws m) (hb : Below w.heap.size w w') : RepAt w' br bs s ws m := by
  have hlt := h.lt
  have hord := h.ord
  obtain ⟨ao, cap, h1, h2⟩ := h.waiters
  refine ⟨(hb.cell (p := ⟨br, 5, none⟩) hlt).trans h.stop, (hb.block bs (by omega)).trans h.shut, (hb.cell (p := ⟨br, 67, none⟩) hlt).trans h.mu, (hb.cell (p := ⟨br, 73, none⟩) hlt).trans h.settled,
    ⟨ao, cap, (hb.cell (p := ⟨br, 76, none⟩) hlt).trans h1, h2.kept (row := none) ⟨hb.os, hb.tape, hb.output, hb.size, fun k hk _ => hb.block k hk⟩ (by cases hv : (Value.slice ao ws.length cap).ownBlock <;> simp)⟩,
    fun o => (hb.frozen (p := ⟨br, o, none⟩) hlt).trans (h.froz o), by have := hb.size; omega, hord, fun x hx => by have := h.chans x hx; have := hb.size; omega⟩
theorem RepAt.setMu {w : World} {br bs : Nat} {s m : Int} {ws : List (Int × Nat)} (h : RepAt w br bs s ws m) (m' : Int) : RepAt (w.setCell ⟨br, 67, none⟩ (.int .i32 m')) br bs s ws m' := by
  have hord := h.ord
  obtain ⟨ao, cap, h1, h2⟩ := h.waiters
  refine ⟨by rw [World.cell?_setCell_other _ _ _ _ (by simp)]; exact h.stop, by rw [Below.heap_setCell _ _ _ _ (by simp; omega)]; exact h.shut, World.cell?_setCell_same _ _ _ h.mu, by rw [World.cell?_setCell_other _ _ _ _ (by simp)]; exact h.settled,
    ⟨ao, cap, by rw [World.cell?_setCell_other _ _ _ _ (by simp)]; exact h1, ownsRow_setCell_below h2 (by simp) _⟩, fun o => by rw [World.frozen?_setCell]; exact h.froz o, by simp [World.setCell]; exact h.lt, hord, fun x hx => by simp [World.setCell]; exact h.chans x hx⟩

theorem info97 : (Tryd.prog.info? 97).map (fun i => (i.zero, i.size, i.bytes)) = some (some (.agg #[.int .u64 0, .chan none]), 2, 16) := by kernel_rfl

theorem owns_blk {w : World} {base : Nat} {ao : Option Addr} {n cap m : Nat} {xs : List Value} (h : w.ownsRow base 97 2 (.slice ao n cap) m xs) : ∀ k, (Value.slice ao n cap).ownBlock = some k → base ≤ k ∧ k < w.heap.size := h.lt
theorem owns_ne {w : World} {br : Nat} {v : Value} {n : Nat} {xs : List Value} (h : w.ownsRow (br + 1) 97 2 v n xs) {b : Nat} (hb : b ≤ br) : some b ≠ v.ownBlock := fun e => by
  have := h.lt b e.symm
  omega

theorem grown_block {w wb w1 : World} {row : Option Nat} (hB : Below w.heap.size w wb) (hg : wb.grownBy w1 row) {k : Nat} (h : k < w.heap.size) (hne : some k ≠ row) : w1.heap[k]? = w.heap[k]? := by
  rw [hg.block k (by have := hB.size; omega) hne]
  exact hB.block k h
theorem grown_cell {w wb w1 : World} {row : Option Nat} (hB : Below w.heap.size w wb) (hg : wb.grownBy w1 row) {p : Addr} (h : p.block < w.heap.size) (hne : some p.block ≠ row) : w1.cell? p = w.cell? p :=
  World.cell?_of_block (grown_block hB hg h hne)
theorem grown_frozen {w wb w1 : World} {row : Option Nat} (hB : Below w.heap.size w wb) (hg : wb.grownBy w1 row) {p : Addr} (h : p.block < w.heap.size) (hne : some p.block ≠ row) : w1.frozen? p = w.frozen? p :=
  World.frozen?_of_block (grown_block hB hg h hne)

/-- The replica behind an append of one waiter. -/
theorem add_done {w wb w1 : World} {br bs g cap cap' c : Nat} {s t m : Int} {ws : List (Int × Nat)} {ao : Option Addr} (hR : RepAt w br bs s ws m) (h76 : w.cell? ⟨br, 76, none⟩ = some (.slice ao ws.length cap))
    (hown : w.ownsRow (br + 1) 97 2 (.slice ao ws.length cap) ws.length (wCells ws)) (hB : Below w.heap.size w wb) (hcs : c < wb.heap.size)
    (hgrow : wb.grownBy w1 (Value.slice ao ws.length cap).ownBlock)
    (hown1 : w1.ownsRow (br + 1) 97 2 (.slice (some ⟨g, 0, none⟩) (ws.length + 1) cap') (ws.length + 1) (wCells ws ++ [.int .u64 t, .chan (some c)])) :
    RepAt (w1.setCell ⟨br, 76, none⟩ (.slice (some ⟨g, 0, none⟩) (ws.length + 1) cap')) br bs s (ws ++ [(t, c)]) m ∧ Below br w (w1.setCell ⟨br, 76, none⟩ (.slice (some ⟨g, 0, none⟩) (ws.length + 1) cap')) := by
  have hlt := hR.lt
  have hord := hR.ord
  have hne := owns_ne hown (Nat.le_refl br)
  have hnes := owns_ne hown (b := bs) (by omega)
  have hsz := hB.size
  have hsz1 := hgrow.size
  have hbl : Below br w w1 := ⟨hgrow.os.trans hB.os, hgrow.tape.trans hB.tape, hgrow.output.trans hB.output, by omega, fun k hk => grown_block hB hgrow (by omega) (owns_ne hown (by omega))⟩
  refine ⟨⟨?_, ?_, ?_, ?_, ⟨some ⟨g, 0, none⟩, cap', ?_, ?_⟩, fun o => ?_, by simp [World.setCell]; omega, hord, fun x hx => ?_⟩, hbl.setCell (Nat.le_refl _) _⟩
  · rw [World.cell?_setCell_other _ _ _ _ (by simp), grown_cell (p := ⟨br, 5, none⟩) hB hgrow hlt hne]; exact hR.stop
  · rw [Below.heap_setCell _ _ _ _ (by simp; omega), grown_block hB hgrow (by omega) hnes]; exact hR.shut
  · rw [World.cell?_setCell_other _ _ _ _ (by simp), grown_cell (p := ⟨br, 67, none⟩) hB hgrow hlt hne]; exact hR.mu
  · rw [World.cell?_setCell_other _ _ _ _ (by simp), grown_cell (p := ⟨br, 73, none⟩) hB hgrow hlt hne]; exact hR.settled
  · rw [World.cell?_setCell_same _ _ _ ((grown_cell hB hgrow hlt hne).trans h76)]; simp
  · rw [wCells_snoc]
    have := ownsRow_setCell_below hown1 (a := ⟨br, 76, none⟩) (by simp) (.slice (some ⟨g, 0, none⟩) (ws.length + 1) cap')
    simpa using this
  · rw [World.frozen?_setCell, grown_frozen (p := ⟨br, o, none⟩) hB hgrow hlt hne]; exact hR.froz o
  · simp [World.setCell]
    simp at hx
    rcases hx with hx | rfl
    · have := hR.chans x hx; omega
    · simp only; omega

set_option maxRecDepth 100000 in
set_option maxHeartbeats 1000000 in
theorem c6_any (br bs : Nat) (s t : Int) (ws : List (Int × Nat)) (hn : ws.length ≤ 1000000) (w : World) (hR : RepAt w br bs s ws 0) :
    Calls Tryd.prog 6 #[.pointer (some ⟨br, 0, none⟩), .int .u64 t] w fun e w' => e = .returned (.tuple #[]) ∧ ∃ c, RepAt w' br bs s (ws ++ [(t, c)]) 0 ∧ Below br w w' := by
  obtain ⟨i0, hi0, hz0, hz1, hz2⟩ := info_parts info97
  obtain ⟨ao, cap, h76, hown⟩ := hR.waiters
  have hf := hR.froz 76
  have hlt := hR.lt
  have hmk := mkc
  have hmax : ws.length + 1 ≤ maxLen := by unfold maxLen; omega
  have hown2 := ((hown.alloc (.chan 0 #[] false 0 0 false)).alloc (.cells #[.int .u64 t, .chan (some w.heap.size)] 97)).drew
  have hB : Below w.heap.size w ((w.alloc (.chan 0 #[] false 0 0 false)).alloc (.cells #[.int .u64 t, .chan (some w.heap.size)] 97)).drew := (((Below.refl _ _).alloc (Nat.le_refl _) _).alloc (by simp) _).drew
  have hne := owns_ne hown (Nat.le_refl br)
  go_enter Tryd.func6, Tryd.ntmps6
  go_wp2_with fail
  go_region_law (refine step_append_lies _ (by rfl) _ _ _ (by rfl) (br + 1) 97 i0 _ 2 16 Tryd.underlying91 hi0 hz0 hz1 hz2 rfl (by omega) _ ws.length (wCells ws) (by rfl) hown2 ⟨w.heap.size + 1, 0, none⟩ 1 1 [.int .u64 t, .chan (some w.heap.size)] (by rfl) (by rfl) (World.news_of_block (cs := #[.int .u64 t, .chan (some w.heap.size)]) (t := 97) (fr := (0, 0)) (heap_alloc2_new w _ _)) (by simp [Value.oneCell']) (by omega) hmax (by omega) (by simp; omega) (w.heap.size + 2) (by simp) ?_; intro g cap' w1 hown1 hgrow hat hlt1; have f76 : w1.frozen? ⟨br, 76, none⟩ = false := (grown_frozen hB hgrow hlt hne).trans hf; have c76 : w1.cell? ⟨br, 76, none⟩ = some (.slice ao ws.length cap) := (grown_cell hB hgrow hlt hne).trans h76)
  all_goals
    go_wp2_with fail
    go_end0
    exact ⟨rfl, w.heap.size, add_done hR h76 hown hB (by simp; omega) hgrow hown1⟩
end Go.Proofs.Qxb6616082aDoor
