/-
  From the reading of an argument to what the walk is told.
-/
import Derived.Test.Qxb6616088aLeaf
import Derived.ProofKit
import Derived.OpenShut
import Derived.ShutString
import Derived.ChangeOld
import Derived.Below
import Derived.Deep.SlicePairs
namespace Go.Proofs.Qxb6616088a
open Go.ChangeShapes Go.WideShapes Go.ChangeAt Go.RowKit

theorem own : ownKnob Try.prog.godebug = none := by kernel_rfl
theorem laidOut : laidOutB Try.prog = true := by kernel_rfl

theorem add_flat (b off k : Nat) : (⟨b, off, none⟩ : Addr).add k = ⟨b, off + k, none⟩ := by
  cases k <;> simp [Addr.add]
theorem leases_at {H : Type} {enc : TypeId × Value → H} {W : World} {a0 : Option Addr} {len cap : Nat} {d : DataW H} {p : List MemPlace}
    (h : DataW.Trod enc Try.prog W 0 (fun _ => true) true 47 (.slice a0 len cap) d p) :
    len = 0 ∨ ∃ (x o : Nat) (E B : Nat → Int), a0 = some ⟨x, o, none⟩ ∧ LeaseAt W x o len E B ∧ x < W.heap.size := by
  by_cases hz : len = 0
  · exact Or.inl hz
  right
  have hlt : ∀ x ∈ p, x.block < W.heap.size := by obtain ⟨m, hm⟩ := h; exact DataW.trod_lt m _ _ _ hm
  obtain ⟨fuel, hf⟩ := h
  rcases Deep.open_slice_pairs Try.underlying47 Try.underlying54 (by kernel_rfl) rfl rfl (by kernel_rfl) (by kernel_rfl) hf with ⟨hcs, _⟩ | ⟨a, l, c, m, n, V0, V1, D0, D1, P0, P1, hcs, _, hl, hm, hmm, hx, hcell⟩
  · simp [Value.cells] at hcs
    omega
  · simp [Value.cells] at hcs
    obtain ⟨rfl, rfl, rfl⟩ := hcs
    simp at hmm
    subst hmm
    have e0 : ∀ i, ∃ z : Int, i < len → V0 i = .int .i64 z := fun i => by
      by_cases hi : i < len
      · obtain ⟨z, hz, _⟩ := DataW.trod_int Try.underlying2 (hcell i (by omega)).2.2.1
        exact ⟨z, fun _ => by simpa using hz⟩
      · exact ⟨0, fun h => absurd h hi⟩
    have e1 : ∀ i, ∃ z : Int, i < len → V1 i = .int .i64 z := fun i => by
      by_cases hi : i < len
      · obtain ⟨z, hz, _⟩ := DataW.trod_int Try.underlying2 (hcell i (by omega)).2.2.2
        exact ⟨z, fun _ => by simpa using hz⟩
      · exact ⟨0, fun h => absurd h hi⟩
    obtain ⟨x, o, spot⟩ := a
    have hspot : spot = none := by
      have h0 := World.cell?_spot (hcell 0 (by omega)).1
      simpa [Addr.add] using h0
    subst hspot
    refine ⟨x, o, fun i => (e0 i).choose, fun i => (e1 i).choose, rfl, fun i hi => ⟨?_, ?_⟩, ?_⟩
    · rw [← (e0 i).choose_spec hi]
      have h := (hcell i (by omega)).1
      rw [add_flat] at h
      exact h
    · rw [← (e1 i).choose_spec hi]
      have h := (hcell i (by omega)).2.1
      rw [add_flat] at h
      exact h
    · have h0 := (hcell 0 (by omega)).1
      rw [add_flat] at h0
      simp only [World.cell?] at h0
      by_cases hb : x < W.heap.size
      · exact hb
      · rw [Array.getElem?_eq_none (by omega)] at h0
        cases h0
end Go.Proofs.Qxb6616088a
