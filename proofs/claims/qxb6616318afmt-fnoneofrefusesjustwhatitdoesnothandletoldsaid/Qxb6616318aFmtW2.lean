/-
  The reader that oneOf makes, and ZZoneOf.
-/
import Derived.Test.Qxb6616318aFmtW1
namespace Go.Proofs.Qxb6616318aFmt
open Go.RowKit Go.Extern.Stop Go.Stop Go.Extern

set_option maxRecDepth 100000 in
set_option maxHeartbeats 400000 in
theorem c7_hit (v old : ByteArray) (a : Option Addr) (c p q g : Nat) (xs : List ByteArray) (w : World) (hx : StrsAt w a xs) (hn : xs.length ≤ 9223372036854775807)
    (hp : w.cell? ⟨p, 0, none⟩ = some (.slice a xs.length c)) (hq : w.cell? ⟨q, 0, none⟩ = some (.pointer (some ⟨g, 0, none⟩))) (hg : w.cell? ⟨g, 0, none⟩ = some (.string old)) (hf : w.frozen? ⟨g, 0, none⟩ = false) (hin : Lib.containsS xs v = true) :
    Calls Tryf.prog 7 #[.string v, .pointer (some ⟨p, 0, none⟩), .pointer (some ⟨q, 0, none⟩)] w fun e w' => e = .returned .nilIface ∧ w' = w.setCell ⟨g, 0, none⟩ (.string v) := by
  go_enter Tryf.func7, Tryf.ntmps7
  go_wp2_with (first | (go_at_call 8; refine (c8_any a c xs v w hx hn).mono ?_; rintro e w1 ⟨rfl, rfl⟩))
  go_ret
  exact ⟨rfl, rfl⟩

set_option maxRecDepth 100000 in
set_option maxHeartbeats 400000 in
theorem c7_miss (F : Interp) (v : ByteArray) (a : Option Addr) (c p q : Nat) (xs : List ByteArray) (w : World) (hF : F.answers w.tape) (hx : StrsAt w a xs) (hc : xs.length ≤ c) (hn : xs.length ≤ 140737488355328)
    (hlen : (Lib.join (xs.map (·.data.toList)) [44, 32]).length ≤ 140737488355328)
    (hp : w.cell? ⟨p, 0, none⟩ = some (.slice a xs.length c)) (hin : Lib.containsS xs v = false) :
    Calls Tryf.prog 7 #[.string v, .pointer (some ⟨p, 0, none⟩), .pointer (some ⟨q, 0, none⟩)] w fun e w' => SomeError e ∧ Below w.heap.size w w' := by
  go_enter Tryf.func7, Tryf.ntmps7
  go_wp2_with (first | (go_at_call 8; refine (c8_any a c xs v w hx (by omega)).mono ?_; rintro e w1 ⟨rfl, rfl⟩))
  refine Calls.mono (c9_any F v a c xs _ hF hx hc hn hlen) ?_
  rintro e w2 ⟨he, hb2⟩
  obtain ⟨t, u, rfl⟩ := he
  go_wp2_with fail
  go_ret
  exact ⟨⟨_, _, rfl⟩, hb2⟩

set_option maxRecDepth 100000 in
set_option maxHeartbeats 400000 in
theorem c5_hit (v old : ByteArray) (a : Option Addr) (n c g : Nat) (xs : List ByteArray) (w : World) (hxl : n = xs.length) (hx : StrsAt w a xs) (hn : xs.length ≤ 9223372036854775807)
    (hg : w.cell? ⟨g, 0, none⟩ = some (.string old)) (hf : w.frozen? ⟨g, 0, none⟩ = false) (hl : g < w.heap.size) (hin : Lib.containsS xs v = true) :
    Calls Tryf.prog 5 #[.pointer (some ⟨g, 0, none⟩), .string v, .slice a n c] w fun e w' => e = .returned .nilIface ∧ w'.cell? ⟨g, 0, none⟩ = some (.string v) ∧ Below g w w' := by
  subst hxl
  obtain ⟨w2, hw2⟩ : ∃ w2, w2 = (w.alloc (.cells #[.pointer (some ⟨g, 0, none⟩)] 27)).alloc (.cells #[.slice a xs.length c] 22) := ⟨_, rfl⟩
  have hb : Below w.heap.size w w2 := by rw [hw2]; exact ((Below.refl _ _).alloc (Nat.le_refl _) _).alloc (by simp) _
  have hp : w2.cell? ⟨w.heap.size + 1, 0, none⟩ = some (.slice a xs.length c) := by rw [hw2, World.cell?_alloc_at _ _ _ _ (by simp)]; rfl
  have hq : w2.cell? ⟨w.heap.size, 0, none⟩ = some (.pointer (some ⟨g, 0, none⟩)) := by
    rw [hw2, World.cell?_alloc_old _ _ _ (by simp), World.cell?_alloc_at _ _ _ _ rfl]; rfl
  have hg2 : w2.cell? ⟨g, 0, none⟩ = some (.string old) := (hb.cell (p := ⟨g, 0, none⟩) hl).trans hg
  have hf2 : w2.frozen? ⟨g, 0, none⟩ = false := (hb.frozen (p := ⟨g, 0, none⟩) hl).trans hf
  have hx2 := hx.below' hb
  go_enter Tryf.func5, Tryf.ntmps5
  go_wp2_with (first | (go_at_call 6; go_in))
  rw [← hw2]
  clear hw2
  refine Calls.mono (c7_hit v old a c (w.heap.size + 1) w.heap.size g xs w2 hx2 hn hp hq hg2 hf2 hin) ?_
  rintro e w3 ⟨rfl, rfl⟩
  go_wp2_with fail
  go_ret
  exact ⟨rfl, World.cell?_setCell_same _ _ _ hg2, (hb.mono (Nat.le_of_lt hl)).setCell (Nat.le_refl _) _⟩

set_option maxRecDepth 100000 in
set_option maxHeartbeats 400000 in
theorem c5_miss (F : Interp) (v old : ByteArray) (a : Option Addr) (n c g : Nat) (xs : List ByteArray) (w : World) (hxl : n = xs.length) (hF : F.answers w.tape) (hx : StrsAt w a xs) (hc : xs.length ≤ c) (hn : xs.length ≤ 140737488355328)
    (hlen : (Lib.join (xs.map (·.data.toList)) [44, 32]).length ≤ 140737488355328) (hg : w.cell? ⟨g, 0, none⟩ = some (.string old)) (hl : g < w.heap.size) (hin : Lib.containsS xs v = false) :
    Calls Tryf.prog 5 #[.pointer (some ⟨g, 0, none⟩), .string v, .slice a n c] w fun e w' => SomeError e ∧ w'.cell? ⟨g, 0, none⟩ = some (.string old) ∧ Below g w w' := by
  subst hxl
  obtain ⟨w2, hw2⟩ : ∃ w2, w2 = (w.alloc (.cells #[.pointer (some ⟨g, 0, none⟩)] 27)).alloc (.cells #[.slice a xs.length c] 22) := ⟨_, rfl⟩
  have hb : Below w.heap.size w w2 := by rw [hw2]; exact ((Below.refl _ _).alloc (Nat.le_refl _) _).alloc (by simp) _
  have hp : w2.cell? ⟨w.heap.size + 1, 0, none⟩ = some (.slice a xs.length c) := by rw [hw2, World.cell?_alloc_at _ _ _ _ (by simp)]; rfl
  have hg2 : w2.cell? ⟨g, 0, none⟩ = some (.string old) := (hb.cell (p := ⟨g, 0, none⟩) hl).trans hg
  have hF2 : F.answers w2.tape := by rw [hb.tape]; exact hF
  have hx2 := hx.below' hb
  go_enter Tryf.func5, Tryf.ntmps5
  go_wp2_with (first | (go_at_call 6; go_in))
  rw [← hw2]
  clear hw2
  refine Calls.mono (c7_miss F v a c (w.heap.size + 1) w.heap.size xs w2 hF2 hx2 hc hn hlen hp hin) ?_
  rintro e w3 ⟨he, hb3⟩
  obtain ⟨t, u, rfl⟩ := he
  have hg3 : w3.cell? ⟨g, 0, none⟩ = some (.string old) := (hb3.cell (p := ⟨g, 0, none⟩) (Nat.lt_of_lt_of_le hl hb.size)).trans hg2
  have hb4 : Below g w w3 := (hb.mono (Nat.le_of_lt hl)).trans (hb3.mono (Nat.le_trans (Nat.le_of_lt hl) hb.size))
  go_wp2_with fail
  go_ret
  exact ⟨⟨_, _, rfl⟩, hg3, hb4⟩
end Go.Proofs.Qxb6616318aFmt
