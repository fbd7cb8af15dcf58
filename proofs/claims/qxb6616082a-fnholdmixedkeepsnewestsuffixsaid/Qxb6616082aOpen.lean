/-
  From the reading of an argument to what the walk is told.
-/
import Derived.Test.Qxb6616082aGet
import Derived.ProofKit
import Derived.OpenShut
import Derived.ShutString
import Derived.ChangeOld
import Derived.Below
import Derived.SliceStrings
namespace Go.Proofs.Qxb6616082a
open Go.ChangeShapes Go.WideShapes Go.ChangeAt Go.RowKit

theorem own : ownKnob Try.prog.godebug = none := by kernel_rfl
theorem laidOut : laidOutB Try.prog = true := by kernel_rfl

theorem rowAt_of {W : World} {a : Addr} {n : Nat} {f : Nat → Value} (h : ∀ i, i < n → W.cell? (a.add i) = some (f i)) : RowAt W (some a) n f := by
  intro i hi
  have hc := h i hi
  obtain ⟨b, off, spot⟩ := a
  have hspot : spot = none := by
    have h0 := World.cell?_spot (h 0 (by omega))
    simpa [Addr.add] using h0
  subst hspot
  exact ⟨b, off, rfl, by rw [← add_plain']; exact hc⟩

theorem ints_rowAt {H : Type} {enc : TypeId × Value → H} {W : World} {base : Nat} {sp : Nat → Bool} {held : Bool} {a0 : Option Addr} {len cap : Nat} {d : DataW H} {p : List MemPlace}
    (h : DataW.Trod enc Try.prog W base sp held 22 (.slice a0 len cap) d p) : ∃ zs : List Int, zs.length = len ∧ RowAt W a0 zs.length (fun i => .int .i64 (zs.getD i 0)) := by
  obtain ⟨fuel, hf⟩ := h
  rcases open_ints Try.underlying22 Try.underlying3 (by kernel_rfl) hf with ⟨hcs, _⟩ | ⟨x, l, c, zs, hcs, _, hl, hm, hz, _, hcell, hwz⟩
  · simp [Value.cells] at hcs
    obtain ⟨rfl, rfl, rfl⟩ := hcs
    exact ⟨[], rfl, fun i hi => by simp at hi⟩
  · simp [Value.cells] at hcs
    obtain ⟨rfl, rfl, rfl⟩ := hcs
    have hlz : len ≤ zs.length := by split at hz <;> omega
    have hle : (zs.take len).length = len := by rw [List.length_take]; omega
    refine ⟨zs.take len, hle, ?_⟩
    rw [hle]
    refine rowAt_of fun i hi => ?_
    rw [hcell i (by omega)]
    simp [hi]

theorem strs_rowAt {H : Type} {enc : TypeId × Value → H} {W : World} {base : Nat} {sp : Nat → Bool} {held : Bool} {a0 : Option Addr} {len cap : Nat} {d : DataW H} {p : List MemPlace}
    (h : DataW.Trod enc Try.prog W base sp held 23 (.slice a0 len cap) d p) : ∃ ss : List ByteArray, ss.length = len ∧ RowAt W a0 ss.length (fun i => .string (ss.getD i ByteArray.empty)) := by
  obtain ⟨fuel, hf⟩ := h
  rcases open_strings Try.underlying23 Try.underlying9 (by kernel_rfl) hf with ⟨hcs, _⟩ | ⟨x, l, c, zs, hcs, _, hl, hm, hz, _, hcell, hwz⟩
  · simp [Value.cells] at hcs
    obtain ⟨rfl, rfl, rfl⟩ := hcs
    exact ⟨[], rfl, fun i hi => by simp at hi⟩
  · simp [Value.cells] at hcs
    obtain ⟨rfl, rfl, rfl⟩ := hcs
    have hlz : len ≤ zs.length := by split at hz <;> omega
    have hle : (zs.take len).length = len := by rw [List.length_take]; omega
    refine ⟨zs.take len, hle, ?_⟩
    rw [hle]
    refine rowAt_of fun i hi => ?_
    rw [hcell i (by omega)]
    simp [hi]
end Go.Proofs.Qxb6616082a
