/-
  slices.IndexFunc and slices.DeleteFunc at the waiters, where the last one alone is the wanted one.
-/
import Derived.Test.Qxb6616082aDoorLeaf
namespace Go.Proofs.Qxb6616082aDoor
open Go.RowKit Go.Conc

/-- The waiters' cells in block g: targets and channels. -/
def WRow (w : World) (g : Nat) (ws : List (Int × Nat)) : Prop :=
  ∀ i (h : i < ws.length), w.cell? ⟨g, i * 2, none⟩ = some (.int .u64 ws[i].1) ∧ w.cell? ⟨g, i * 2 + 1, none⟩ = some (.chan (some ws[i].2))

theorem WRow.below {w w' : World} {g : Nat} {ws : List (Int × Nat)} {B : Nat} (h : WRow w g ws) (hb : Below B w w') (hg : g < B) : WRow w' g ws := fun i hi => by
  obtain ⟨h1, h2⟩ := h i hi
  exact ⟨(hb.cell (p := ⟨g, _, none⟩) hg).trans h1, (hb.cell (p := ⟨g, _, none⟩) hg).trans h2⟩

set_option maxRecDepth 100000 in
set_option maxHeartbeats 1000000 in
theorem c23_any (ws : List (Int × Nat)) (t : Int) (c bw g cap : Nat) (hn : ws.length ≤ 1000000) (hne : ∀ x ∈ ws, x.2 ≠ c) (w : World) (hW : WRow w g (ws ++ [(t, c)])) (hg : g < w.heap.size) (h : w.cell? ⟨bw, 1, none⟩ = some (.chan (some c))) (hl : bw < w.heap.size) :
    Calls Tryd.prog 23 #[.slice (some ⟨g, 0, none⟩) (ws.length + 1) cap, .func (.func 18) #[] #[.pointer (some ⟨bw, 0, none⟩)]] w fun e w' => e = .returned (.int .i64 ws.length) ∧ Below w.heap.size w w' := by
  go_enter Tryd.func23, Tryd.ntmps23
  go_wp2_with fail
  go_loopw [8] (fun i wr => ∃ k : Nat, k ≤ ws.length ∧ i = .int .i64 k ∧ Below w.heap.size w wr) (fun i _ => ws.length + 1 - (intOf i).toNat)
  case atStart => exact ⟨0, Nat.zero_le _, rfl, Below.refl _ _⟩
  case round =>
    obtain ⟨k, hk, rfl, hD⟩ := hrel
    have hsz := hD.size
    have hW2 := hW.below hD hg
    have hb := (hD.cell (p := ⟨bw, 1, none⟩) hl).trans h
    obtain ⟨d1, d2⟩ := hW2 k (by simp; omega)
    have hl2 : bw < wr.heap.size := by omega
    by_cases hlt : k < ws.length
    · rw [List.getElem_append_left hlt] at d1 d2
      have hne2 : (ws[k].2 == c) = false := beq_eq_false_iff_ne.2 (hne _ (List.getElem_mem _))
      clear hW hW2
      go_wp2_with fail
      refine (c18_any _ _ _ bw _ hb hl2).mono ?_
      rintro e w2 ⟨rfl, rfl⟩
      go_wp2_with fail
      go_roundw
      case rel => exact ⟨k + 1, by omega, by go_num, hD.alloc hsz _⟩
      case measure => simp [intOf]; omega
    · have hke : k = ws.length := by omega
      subst hke
      simp at d1 d2
      clear hW hW2
      go_wp2_with fail
      refine (c18_any _ _ _ bw _ hb hl2).mono ?_
      rintro e w2 ⟨rfl, rfl⟩
      go_wp2_with fail
      go_ret
      exact ⟨rfl, hD.alloc hsz _⟩

theorem clear1 (w : World) (ty : TypeId) (g o c : Nat) (x y : Value) (h0 : w.cell? ⟨g, o, none⟩ = some x) (h1 : w.cell? ⟨g, o + 1, none⟩ = some y) (f0 : w.frozen? ⟨g, o, none⟩ = false) (f1 : w.frozen? ⟨g, o + 1, none⟩ = false) :
    (Builtin.clear_ #[91] ty #[.slice (some ⟨g, o, none⟩) 1 c]).run Tryd.prog w = .ok (.tuple #[]) ((w.setCell ⟨g, o, none⟩ (.int .u64 0)).setCell ⟨g, o + 1, none⟩ (.chan none)) := by
  have hst := run_storeCells_cells (P := Tryd.prog) g o [.int .u64 0, .chan none] 0 w (fun j hj => by
    match j, hj with
    | 0, _ => simp [h0]
    | 1, _ => simp [h1]) (fun j hj => by
    match j, hj with
    | 0, _ => simpa using f0
    | 1, _ => simpa using f1) (by simp [Value.oneCell'])
  simp only [Nat.add_zero] at hst
  have hz : (Builtin.zeroCells (Value.agg #[.int .u64 0, .chan none]).cells 1).toList = [.int .u64 0, .chan none] := by kernel_rfl
  simp only [Builtin.clear_]
  simp [run_underlying Tryd.underlying91, Tryd.zeroValue97, hz, hst, World.setCells]

set_option maxRecDepth 100000 in
set_option maxHeartbeats 1000000 in
theorem c17_any (ws : List (Int × Nat)) (t : Int) (c bw g cap : Nat) (hn : ws.length ≤ 1000000) (hcap : ws.length + 1 ≤ cap) (hne : ∀ x ∈ ws, x.2 ≠ c) (w : World) (hW : WRow w g (ws ++ [(t, c)])) (hg : g < w.heap.size) (h : w.cell? ⟨bw, 1, none⟩ = some (.chan (some c))) (hl : bw < w.heap.size)
    (hf0 : w.frozen? ⟨g, ws.length * 2, none⟩ = false) (hf1 : w.frozen? ⟨g, ws.length * 2 + 1, none⟩ = false) :
    Calls Tryd.prog 17 #[.slice (some ⟨g, 0, none⟩) (ws.length + 1) cap, .func (.func 18) #[] #[.pointer (some ⟨bw, 0, none⟩)]] w fun e w' => e = .returned (.slice (some ⟨g, 0, none⟩) ws.length cap) ∧ ∃ w1, Below w.heap.size w w1 ∧ w' = (w1.setCell ⟨g, ws.length * 2, none⟩ (.int .u64 0)).setCell ⟨g, ws.length * 2 + 1, none⟩ (.chan none) := by
  go_enter Tryd.func17, Tryd.ntmps17
  go_wp2_with fail
  refine (c23_any ws t c bw g cap hn hne w hW hg h hl).mono ?_
  rintro e w1 ⟨rfl, hD⟩
  have hsz := hD.size
  have hW2 := hW.below hD hg
  obtain ⟨d1, d2⟩ := hW2 ws.length (by simp)
  simp at d1 d2
  have hf0' := (hD.frozen (p := ⟨g, ws.length * 2, none⟩) hg).trans hf0
  have hf1' := (hD.frozen (p := ⟨g, ws.length * 2 + 1, none⟩) hg).trans hf1
  have hm1 : ((ws.length : Int) == -1) = false := beq_eq_false_iff_ne.2 (by omega)
  clear hW hW2
  go_wp2_with fail
  refine wp_loop_rounds 1 ?_
  rw [rounds_succ]
  have hcl := fun ty c => clear1 w1 ty g (ws.length * 2) c _ _ d1 d2 hf0' hf1'
  go_wp2_with fail
  go_ret
  exact ⟨rfl, w1, hD, rfl⟩
end Go.Proofs.Qxb6616082aDoor
