/-
  Loads of whole messages under a guard.
-/
import Derived.Test.Qxb6616088aMem
namespace Go.Proofs.Qxb6616088a
open Go.RowKit

theorem wpList_wanted {P : Program} {ops : Array Oper} {rest : List Oper} {o : Oper} {a : Act} {w : World} {Q : Exit → Act → World → Prop} (hw : Region.wanted o (yielded ops a.tmps) = true)
    (h : ∀ K : Act → World → Prop, (∀ a w, wpList P ops Q rest a w → K a w) → o.wp P a w K Q) : wpList P ops Q (o :: rest) a w :=
  wpList_step fun K hK => by rw [if_pos hw]; exact h K hK
theorem wpList_loadMg {ops : Array Oper} {rest : List Oper} {o : Oper} {a : Act} {w : World} {Q : Exit → Act → World → Prop} {x : Operand} (ho : o.op = .load 40 x) (g : Nat) (m : Msg) (hw : Region.wanted o (yielded ops a.tmps) = true)
    (hx : a.eval x = .pointer (some ⟨g, 0, none⟩)) (hm : MAt w g 40 m) (h : wpList Try.prog ops Q rest (a.put o.dst (.agg m.cells)) w) : wpList Try.prog ops Q (o :: rest) a w :=
  wpList_wanted hw fun _ hK => wp_load_row 40 x ho g hx 40 m.cells (0, 0) _ hm Try.underlying40 rfl (by kernel_rfl) (hK _ _ h)
theorem wpList_loadZg {ops : Array Oper} {rest : List Oper} {o : Oper} {a : Act} {w : World} {Q : Exit → Act → World → Prop} {x : Operand} (ho : o.op = .load 26 x) (g : Nat) (m : Msg) (hw : Region.wanted o (yielded ops a.tmps) = true)
    (hx : a.eval x = .pointer (some ⟨g, 0, none⟩)) (hm : MAt w g 26 m) (h : wpList Try.prog ops Q rest (a.put o.dst (.agg m.cells)) w) : wpList Try.prog ops Q (o :: rest) a w :=
  wpList_wanted hw fun _ hK => wp_load_row 26 x ho g hx 26 m.cells (0, 0) _ hm Try.underlying26 rfl (by kernel_rfl) (hK _ _ h)
end Go.Proofs.Qxb6616088a
