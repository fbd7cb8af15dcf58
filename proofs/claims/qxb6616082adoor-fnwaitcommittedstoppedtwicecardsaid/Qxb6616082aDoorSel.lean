/-
  A RULE FOR THE WALK: a plain region whose first operation is a select of several cases, in one goroutine, at which just one case can proceed: a receive from a closed, empty channel. (The kit has the machine's step; here it is joined to the walk.)
-/
import Derived.Conc.LoneSelectN
import Derived.Conc.LoneCalls
import Derived.WalkKit
namespace Go.Proofs.Qxb6616082aDoor
open Go Go.Conc Go.RowKit

/-- As 'stepG_comm', whatever the frame's kind: what the step lists is not told. -/
theorem stepG_comm_any {P : Program} {b : Frame} {a : Act} {k : List Item} {cs : List Frame} {w : World} {ops : Array Oper} {i : Nat} {rest : List Nat} {o : Oper} {cases : Array CommCase} {blocking : Bool} {shape : CommShape} {w' : World}
    (ho : ops[i]? = some o) (hw : Region.wanted o (yielded ops a.tmps) = true) (hr : (execOp a.eval o).run P w = .ok (.comm cases blocking shape) w') :
    ∃ es, stepG P true (G (b.at a (.inRegion ops (i :: rest) :: k)) cs) w = .comm (G (b.at a (.inRegion ops (i :: rest) :: k)) cs) cases blocking shape w' es := by
  have h := stepG_op (P := P) (b := b) (k := k) (cs := cs) (w := w) (rest := rest) ho hw
  show ∃ es, stepG P true { frame := b.at a (.inRegion ops (i :: rest) :: k), callers := cs, status := .running, dying := none } w = .comm (G (b.at a (.inRegion ops (i :: rest) :: k)) cs) cases blocking shape w' es
  rw [h]
  simp only [stepG.apply, Sem.runT_eq, hr, GStep.after]
  exact ⟨_, rfl⟩

theorem wp_region_sel_shut {P : Program} {Q : Exit → Act → World → Prop} {a : Act} {w w₁ : World} {id : Nat} {o : Oper} {l : List Oper} {cases : Array CommCase} {blocking : Bool} {k c cap s r : Nat} {z : Value} {tm : Bool}
    (hg : o.guard = none) (hr : (execOp a.eval o).run P w = .ok (.comm cases blocking .select) w₁) (hk : cases[k]? = some (rcase c z))
    (ho : ∀ (m : Nat) (c' : CommCase), m ≠ k → cases[m]? = some c' → NoWay w₁ c') (hc : w₁.heap[c]? = some (.chan cap #[] true s r tm))
    (h : wpList P (o :: l).toArray Q l (a.put o.dst (commResult cases .select k z false)) w₁) : (Code.region id (o :: l).toArray false).wp P Q a w := by
  intro b kk cs
  have hw : Region.wanted o (yielded (o :: l).toArray a.tmps) = true := by simp [Region.wanted, hg]
  have ho0 : (o :: l).toArray[0]? = some o := by simp
  have hrange : List.range (o :: l).toArray.size = 0 :: List.range' 1 l.length := by
    rw [List.range_eq_range']
    simp [List.range'_succ]
  obtain ⟨es, hcomm⟩ := stepG_comm_any (P := P) (b := b) (a := a) (k := kk) (cs := cs) (w := w) (rest := List.range' 1 l.length) ho0 hw hr
  have hstep := step_lone_sel_recv_shut hcomm hk ho hc
  rw [Frame.finish_at, ho0] at hstep
  have h' : wpOps P (o :: l).toArray Q (List.range' 1 l.length) (a.put o.dst (commResult cases .select k z false)) w₁ := by
    rw [wpOps_eq_wpList l 1 (fun j => by simp [Nat.add_comm 1 j])]
    exact h
  obtain ⟨e, a', w', hq, harr⟩ := wp_ops _ _ _ h' b kk cs
  refine ⟨e, a', w', hq, .of_steps (.head step_region ?_) harr⟩
  rw [hrange]
  exact .one hstep
end Go.Proofs.Qxb6616082aDoor
