/-
  Helpers of the field-by-field compares.
-/
import Derived.Test.Qxb6616088aMsg
namespace Go.Proofs.Qxb6616088a
open Go.RowKit

def Drawn' (w w' : World) : Prop := ∃ n, w' = w.drewN n
theorem Drawn'.more {w wq : World} (h : Drawn' w wq) (m : Nat) : Drawn' w (wq.drewN m) := by
  obtain ⟨n, rfl⟩ := h
  exact ⟨n + m, World.drewN_drewN _ _ _⟩
theorem eqIn_nil36 (d : Nat) (a : Option Addr) (n c : Nat) (w : World) : (Op.equalIn (d + 1) 36 (.slice a n c) (.slice none 0 0)).run Try.prog w = .ok a.isNone w := by
  cases a <;> simp [Op.equalIn, run_underlying Try.underlying36]
theorem eql_nil36 (a : Option Addr) (n c : Nat) (w : World) : (binOp .eql 36 (.slice a n c) (.slice none 0 0)).run Try.prog w = .ok (.bool a.isNone) w := by
  simp only [binOp]
  simp [Op.equal, Op.maxDepth, eqIn_nil36 9999 a n c w]
theorem eqIn_nil22 (d : Nat) (a : Option Addr) (n c : Nat) (w : World) : (Op.equalIn (d + 1) 22 (.slice a n c) (.slice none 0 0)).run Try.prog w = .ok a.isNone w := by
  cases a <;> simp [Op.equalIn, run_underlying Try.underlying22]
theorem eql_nil22 (a : Option Addr) (n c : Nat) (w : World) : (binOp .eql 22 (.slice a n c) (.slice none 0 0)).run Try.prog w = .ok (.bool a.isNone) w := by
  simp only [binOp]
  simp [Op.equal, Op.maxDepth, eqIn_nil22 9999 a n c w]
theorem eqIn_nil24 (d : Nat) (a : Option Addr) (n c : Nat) (w : World) : (Op.equalIn (d + 1) 24 (.slice a n c) (.slice none 0 0)).run Try.prog w = .ok a.isNone w := by
  cases a <;> simp [Op.equalIn, run_underlying Try.underlying24]
theorem eql_nil24 (a : Option Addr) (n c : Nat) (w : World) : (binOp .eql 24 (.slice a n c) (.slice none 0 0)).run Try.prog w = .ok (.bool a.isNone) w := by
  simp only [binOp]
  simp [Op.equal, Op.maxDepth, eqIn_nil24 9999 a n c w]

theorem PathAt.below' {w w' : World} {n : Nat} {a : Option Addr} {M : Nat → Mem} (h : PathAt w a n M) (hb : Below w.heap.size w w') : PathAt w' a n M := by
  intro i hi
  obtain ⟨b, off, e, hl, hr⟩ := h i hi
  exact ⟨b, off, e, Nat.lt_of_lt_of_le hl hb.size, range_below hr hb hl⟩
theorem AcksAt.below' {w w' : World} {n : Nat} {a : Option Addr} {U : Nat → Int} (h : AcksAt w a n U) (hb : Below w.heap.size w w') : AcksAt w' a n U := by
  intro i hi
  obtain ⟨b, off, e, hl, hr⟩ := h i hi
  exact ⟨b, off, e, Nat.lt_of_lt_of_le hl hb.size, (hb.cell (p := ⟨b, _, none⟩) hl).trans hr⟩

end Go.Proofs.Qxb6616088a
