/-
  fmt.Errorf, notHandled, the reader and its maker.
-/
import Derived.Test.Qxb6616318aFmtFacts
import Derived.Test.Qxb6616318aFmtShelf
import Derived.WalkKit
import Derived.WalkSpells
import Derived.WalkLawsBesides
import Derived.Below
namespace Go.Proofs.Qxb6616318aFmt
open Go.RowKit Go.Extern.Stop Go.Stop Go.Extern
attribute [local go_sem] Tryf.call13 Tryf.guard Tryf.fmt0 Tryf.fmt0r Tryf.fmt1 Tryf.fmt1r Tryf.op9_118 Tryf.op9_115 Tryf.op9_113 Tryf.op9_118w Tryf.op9_115w Tryf.op9_113w Tryf.strict9 Tryf.ptr45 Tryf.elem45 Tryf.isError45'
/-- It returned an error that is not nil. -/
def SomeError (e : Ending) : Prop := ∃ t v, e = .returned (.iface t v)
/-- It returned a string. -/
def SomeString (e : Ending) : Prop := ∃ s, e = .returned (.string s)
set_option maxRecDepth 100000 in
set_option maxHeartbeats 400000 in
theorem c11_two (F : Interp) (v j : ByteArray) (w : World) (hF : F.answers w.tape) (b : Nat) (h0 : w.cell? ⟨b, 0, none⟩ = some (.iface 9 (.string v))) (h1 : w.cell? ⟨b, 1, none⟩ = some (.iface 9 (.string j))) :
    Calls Tryf.prog 11 #[.string ⟨#[37, 113, 32, 105, 115, 32, 110, 111, 116, 32, 104, 97, 110, 100, 108, 101, 100, 59, 32, 116, 104, 105, 115, 32, 98, 117, 105, 108, 100, 32, 116, 97, 107, 101, 115, 32, 37, 115]⟩, .slice (some ⟨b, 0, none⟩) 2 2] w fun e w' => SomeError e ∧ Below w.heap.size w w' := by
  have hF' := hF
  unfold Interp.answers at hF'
  go_enter Tryf.func11, Tryf.ntmps11
  go_wp2
  go_ret
  exact ⟨⟨_, _, rfl⟩, ((Below.refl _ _).alloc (Nat.le_refl _) _).drew⟩

/-- The strings lie behind an address. -/
def StrsAt (w : World) (a : Option Addr) (xs : List ByteArray) : Prop := ∀ (j : Nat) x, xs[j]? = some x → ∃ b off, a = some ⟨b, off, none⟩ ∧ b < w.heap.size ∧ w.cell? ⟨b, off + j, none⟩ = some (.string x)
theorem StrsAt.below {w w' : World} {a : Option Addr} {xs : List ByteArray} {B : Nat} (h : StrsAt w a xs) (hb : Below B w w') (hB : ∀ b off, a = some ⟨b, off, none⟩ → b < B) : StrsAt w' a xs := by
  intro j x hj
  obtain ⟨b, off, e, hl, hr⟩ := h j x hj
  exact ⟨b, off, e, Nat.lt_of_lt_of_le hl hb.size, (hb.cell (p := ⟨b, _, none⟩) (hB b off e)).trans hr⟩
theorem StrsAt.below' {w w' : World} {a : Option Addr} {xs : List ByteArray} (h : StrsAt w a xs) (hb : Below w.heap.size w w') : StrsAt w' a xs := by
  intro j x hj
  obtain ⟨b, off, e, hl, hr⟩ := h j x hj
  exact ⟨b, off, e, Nat.lt_of_lt_of_le hl hb.size, (hb.cell (p := ⟨b, _, none⟩) hl).trans hr⟩
/-- .. all behind one address. -/
theorem StrsAt.cons {w : World} {a : Option Addr} {x : ByteArray} {r : List ByteArray} (h : StrsAt w a (x :: r)) : ∃ b off, a = some ⟨b, off, none⟩ ∧ b < w.heap.size ∧ ∀ (j : Nat) y, (x :: r)[j]? = some y → w.cell? ⟨b, off + j, none⟩ = some (.string y) := by
  obtain ⟨b, off, e, hl, _⟩ := h 0 x rfl
  refine ⟨b, off, e, hl, fun j y hj => ?_⟩
  obtain ⟨b', off', e', _, hr⟩ := h j y hj
  rw [e] at e'
  cases e'
  exact hr

theorem c12_any (a : Option Addr) (c : Nat) (xs : List ByteArray) (w : World) (hx : StrsAt w a xs) (hc : xs.length ≤ c) (hn : xs.length ≤ 140737488355328)
    (hlen : (Lib.join (xs.map (·.data.toList)) [44, 32]).length ≤ 140737488355328) :
    Calls Tryf.prog 12 #[.slice a xs.length c, .string ⟨#[44, 32]⟩] w fun e w' => SomeString e ∧ Below w.heap.size w w' := by
  cases xs with
  | nil => exact (Tryf.strings_Join_none a c _ w).mono fun e w' ⟨h1, h2⟩ => ⟨⟨_, h1⟩, h2 ▸ Below.refl _ _⟩
  | cons x r =>
    obtain ⟨b, off, rfl, hl, hcell⟩ := hx.cons
    exact (Tryf.strings_Join b off c (x :: r) ⟨#[44, 32]⟩ w hcell hl hn hc hlen).mono fun e w' ⟨h1, h2⟩ => ⟨⟨_, h1⟩, h2⟩
theorem c8_any (a : Option Addr) (c : Nat) (xs : List ByteArray) (v : ByteArray) (w : World) (hx : StrsAt w a xs) (hn : xs.length ≤ 9223372036854775807) :
    Calls Tryf.prog 8 #[.slice a xs.length c, .string v] w fun e w' => e = .returned (.bool (Lib.containsS xs v)) ∧ w' = w := by
  cases xs with
  | nil => exact Tryf.slices_Contains_string_empty a c v w
  | cons x r =>
    obtain ⟨b, off, rfl, hl, hcell⟩ := hx.cons
    have h := Tryf.slices_Contains_string b off (x :: r).length c (x :: r) v w (Nat.le_refl _) hn (fun j hj => by
      rw [hcell j _ (List.getElem?_eq_getElem hj)]
      simp [List.getD, List.getElem?_eq_getElem hj])
    rw [List.take_length] at h
    exact h

set_option maxRecDepth 100000 in
set_option maxHeartbeats 400000 in
theorem c9_any (F : Interp) (v : ByteArray) (a : Option Addr) (c : Nat) (xs : List ByteArray) (w : World) (hF : F.answers w.tape) (hx : StrsAt w a xs) (hc : xs.length ≤ c) (hn : xs.length ≤ 140737488355328)
    (hlen : (Lib.join (xs.map (·.data.toList)) [44, 32]).length ≤ 140737488355328) :
    Calls Tryf.prog 9 #[.string v, .slice a xs.length c] w fun e w' => SomeError e ∧ Below w.heap.size w w' := by
  go_enter Tryf.func9, Tryf.ntmps9
  go_wp2_with fail
  refine Calls.mono (c12_any a c xs w hx hc hn hlen) ?_
  rintro e w1 ⟨hs, hb⟩
  obtain ⟨j, rfl⟩ := hs
  have hF1 : F.answers w1.tape := by rw [hb.tape]; exact hF
  go_wp2_with fail
  refine Calls.mono (c11_two F v j _ (by exact hF1) w1.heap.size ?_ ?_) ?_
  · rw [World.cell?_alloc_at _ _ _ _ (by simp)]; rfl
  · rw [World.cell?_alloc_at _ _ _ _ (by simp)]; rfl
  rintro e w2 ⟨he, hb2⟩
  obtain ⟨t, u, rfl⟩ := he
  have hb3 : Below w.heap.size w w2 := (hb.alloc hb.size _).trans (hb2.mono (by have := hb.size; simp; omega))
  go_wp2_with fail
  go_ret
  exact ⟨⟨_, _, rfl⟩, hb3⟩
end Go.Proofs.Qxb6616318aFmt
