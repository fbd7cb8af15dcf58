/-
  The leaves of the laws of the lease queue: the length guards, a leased transaction, the queue, Less.
-/
import Derived.Test.Qxb6616088aRows
import Derived.WalkKit
import Derived.WalkSpells
import Derived.WalkLawsBesides
import Derived.Deep.RegionLaw
import Derived.Deep.RegionWith
import Derived.Deep.DeepCutAuto
import Derived.Deep.OwnRows
import Derived.Deep.QuietTactic
import Derived.BigQuiet
import Derived.Below
namespace Go.Proofs.Qxb6616088a
open Go.RowKit

/-- The cells of a transaction with this end of lease and this begin instant. -/
def txnCells (e b : Int) : Array Value := #[.string ByteArray.empty, .string ByteArray.empty, .int .i64 b, .int .u8 0, .slice none 0 0, .pointer none, .slice none 0 0, .slice none 0 0, .map none, .slice none 0 0, .int .u64 0, .slice none 0 0, .map none, .slice none 0 0, .string ByteArray.empty, .int .i64 0, .int .i64 e, .int .i32 0, .int .i32 0, .map none, .slice none 0 0]
theorem build88 (e b : Int) (w : World) : (Instr.build 88 #[(15, .int .i64 e), (1, .int .i64 b)]).run Try.prog w = .ok (.agg (txnCells e b)) w :=
  run_build w 88 _ _ (by kernel_rfl)
theorem box88 (e b : Int) (w : World) : (Instr.box 88 (.agg (txnCells e b))).run Try.prog w = .ok (.pointer (some ⟨w.heap.size, 0, none⟩)) (w.alloc (.cells (txnCells e b) 88)) := by kernel_rfl

theorem wp_of_value {P : Program} {o : Oper} {a : Act} {w w' : World} {K : Act → World → Prop} {Q : Exit → Act → World → Prop} (v : Value) (h : (execOp a.eval o).run P w = .ok (.value v) w') (hK : K (a.put o.dst v) w') : o.wp P a w K Q := by
  unfold Oper.wp
  rw [h]
  exact hK
theorem wpList_build88 {ops : Array Oper} {rest : List Oper} {o : Oper} {a : Act} {w : World} {Q : Exit → Act → World → Prop} {x y : Operand} {e b : Int} (hg : o.guard = none) (ho : o.op = .build 88 #[(15, x), (1, y)])
    (hx : a.eval x = .int .i64 e) (hy : a.eval y = .int .i64 b) (h : wpList Try.prog ops Q rest (a.put o.dst (.agg (txnCells e b))) w) : wpList Try.prog ops Q (o :: rest) a w :=
  wpList_plain hg fun K hK => wp_of_value (.agg (txnCells e b)) (by simp [execOp, ho, hx, hy, build88]) (hK _ _ h)
theorem wpList_box88 {ops : Array Oper} {rest : List Oper} {o : Oper} {a : Act} {w : World} {Q : Exit → Act → World → Prop} {x : Operand} {e b : Int} (hg : o.guard = none) (ho : o.op = .box 88 x)
    (hx : a.eval x = .agg (txnCells e b)) (h : wpList Try.prog ops Q rest (a.put o.dst (.pointer (some ⟨w.heap.size, 0, none⟩))) (w.alloc (.cells (txnCells e b) 88))) : wpList Try.prog ops Q (o :: rest) a w :=
  wpList_plain hg fun K hK => wp_of_value (.pointer (some ⟨w.heap.size, 0, none⟩)) (by simp [execOp, ho, hx, box88]) (hK _ _ h)

set_option maxRecDepth 100000 in
set_option maxHeartbeats 400000 in
theorem c21_any (e b : Int) (w : World) :
    Calls Try.prog 21 #[.int .i64 e, .int .i64 b] w fun x w' => (x = .returned (.pointer (some ⟨w.heap.size, 0, none⟩))) ∧ w' = w.alloc (.cells (txnCells e b) 88) := by
  go_enter Try.func21, Try.ntmps21
  go_wp2_with (first | (refine wpList_build88 (e := e) (b := b) rfl rfl rfl rfl ?_) | (refine wpList_box88 (e := e) (b := b) rfl rfl rfl ?_))
  go_ret
  exact ⟨rfl, rfl⟩

set_option maxRecDepth 100000 in
set_option maxHeartbeats 400000 in
theorem c15_any (i k : Int) (a : Option Addr) (n c : Nat) (w : World) :
    Calls Try.prog 15 #[.slice a n c, .int .i64 i, .int .i64 k] w fun e w' => (e = .returned (.bool (decide (n ≤ 1048576)))) ∧ w' = w := by
  by_cases h : n ≤ 1048576
  all_goals
    go_enter Try.func15, Try.ntmps15
    go_wp2
    go_ret
    exact ⟨by simp [h], rfl⟩
set_option maxRecDepth 100000 in
set_option maxHeartbeats 400000 in
theorem c18_any (a : Option Addr) (n c : Nat) (w : World) :
    Calls Try.prog 18 #[.slice a n c] w fun e w' => (e = .returned (.bool (decide (n ≤ 1048576)))) ∧ w' = w := by
  by_cases h : n ≤ 1048576
  all_goals
    go_enter Try.func18, Try.ntmps18
    go_wp2
    go_ret
    exact ⟨by simp [h], rfl⟩

/-- n leases lie behind an address. -/
def LeaseAt (w : World) (x o n : Nat) (E B : Nat → Int) : Prop := ∀ i, i < n → w.cell? ⟨x, o + i * 2, none⟩ = some (.int .i64 (E i)) ∧ w.cell? ⟨x, o + i * 2 + 1, none⟩ = some (.int .i64 (B i))
/-- The queue of n transactions with those leases. -/
def QAt (w : World) (g n : Nat) (E B : Nat → Int) : Prop := ∀ i, i < n → ∃ t, w.cell? ⟨g, i, none⟩ = some (.pointer (some ⟨t, 0, none⟩)) ∧ w.cell? ⟨t, 16, none⟩ = some (.int .i64 (E i)) ∧ w.cell? ⟨t, 2, none⟩ = some (.int .i64 (B i))

def Drawn (w w' : World) : Prop := ∃ n, w' = w.drewN n
theorem Drawn.refl (w : World) : Drawn w w := ⟨0, rfl⟩
theorem Drawn.cell {w wq : World} (h : Drawn w wq) (a : Addr) : wq.cell? a = w.cell? a := by obtain ⟨n, rfl⟩ := h; rfl
theorem Drawn.below {w wq : World} (h : Drawn w wq) {B : Nat} : Below B w wq := by obtain ⟨n, rfl⟩ := h; exact ⟨rfl, rfl, rfl, Nat.le_refl _, fun _ _ => rfl⟩
theorem Drawn.more {w wq : World} (h : Drawn w wq) (m : Nat) : Drawn w (wq.drewN m) := by
  obtain ⟨n, rfl⟩ := h
  exact ⟨n + m, World.drewN_drewN _ _ _⟩
theorem Drawn.trans {w wq wz : World} (h : Drawn w wq) (h' : Drawn wq wz) : Drawn w wz := by
  obtain ⟨m, rfl⟩ := h'
  exact h.more m
theorem QAt.drawn {w wq : World} {g n : Nat} {E B : Nat → Int} (h : QAt w g n E B) (d : Drawn w wq) : QAt wq g n E B := by
  obtain ⟨m, rfl⟩ := d
  exact h
theorem LeaseAt.drawn {w wq : World} {x o n : Nat} {E B : Nat → Int} (h : LeaseAt w x o n E B) (d : Drawn w wq) : LeaseAt wq x o n E B := by
  obtain ⟨m, rfl⟩ := d
  exact h

def lessB (e1 b1 e2 b2 : Int) : Bool := decide (e1 < e2 ∨ e1 = e2 ∧ b1 < b2)

set_option maxRecDepth 100000 in
set_option maxHeartbeats 1600000 in
theorem less_at (g n c i k t u : Nat) (e1 b1 e2 b2 : Int) (w : World) (hi : i < n) (hk : k < n)
    (p0 : w.cell? ⟨g, i, none⟩ = some (.pointer (some ⟨t, 0, none⟩))) (p1 : w.cell? ⟨t, 16, none⟩ = some (.int .i64 e1)) (p2 : w.cell? ⟨t, 2, none⟩ = some (.int .i64 b1))
    (q0 : w.cell? ⟨g, k, none⟩ = some (.pointer (some ⟨u, 0, none⟩))) (q1 : w.cell? ⟨u, 16, none⟩ = some (.int .i64 e2)) (q2 : w.cell? ⟨u, 2, none⟩ = some (.int .i64 b2)) :
    Calls Try.prog 17 #[.slice (some ⟨g, 0, none⟩) n c, .int .i64 i, .int .i64 k] w fun e w' => e = .returned (.bool (lessB e1 b1 e2 b2)) ∧ Drawn w w' := by
  rcases Int.lt_trichotomy e1 e2 with h | h | h
  · have h1 : decide (e1 < e2) = true := decide_eq_true h
    go_enter Try.func17, Try.ntmps17
    go_wp2_with fail
    go_quiet (fail)
    go_wp2_with fail
    go_quiet (fail)
    go_wp2_with fail
    go_ret
    exact ⟨by simp [lessB]; omega, ((Drawn.refl _).more _).more _⟩
  · have h1 : decide (e1 < e2) = false := decide_eq_false (by omega)
    have h2 : (e1 == e2) = true := by simp [h]
    have h2' : decide (e1 = e2) = true := decide_eq_true h
    by_cases h3 : b1 < b2
    · have h4 : decide (b1 < b2) = true := decide_eq_true h3
      go_enter Try.func17, Try.ntmps17
      go_wp2_with fail
      go_quiet (fail)
      go_wp2_with fail
      go_quiet (fail)
      go_wp2_with fail
      go_ret
      exact ⟨by simp [lessB]; omega, ((Drawn.refl _).more _).more _⟩
    · have h4 : decide (b1 < b2) = false := decide_eq_false h3
      go_enter Try.func17, Try.ntmps17
      go_wp2_with fail
      go_quiet (fail)
      go_wp2_with fail
      go_quiet (fail)
      go_wp2_with fail
      go_ret
      exact ⟨by simp [lessB]; omega, ((Drawn.refl _).more _).more _⟩
  · have h1 : decide (e1 < e2) = false := decide_eq_false (by omega)
    have h2 : (e1 == e2) = false := by simp; omega
    have h2' : decide (e1 = e2) = false := decide_eq_false (by omega)
    go_enter Try.func17, Try.ntmps17
    go_wp2_with fail
    go_quiet (fail)
    go_wp2_with fail
    go_quiet (fail)
    go_wp2_with fail
    go_ret
    exact ⟨by simp [lessB]; omega, ((Drawn.refl _).more _).more _⟩

theorem c17_any (g n c i k : Nat) (E B : Nat → Int) (w : World) (hi : i < n) (hk : k < n) (hQ : QAt w g n E B) :
    Calls Try.prog 17 #[.slice (some ⟨g, 0, none⟩) n c, .int .i64 i, .int .i64 k] w fun e w' => e = .returned (.bool (lessB (E i) (B i) (E k) (B k))) ∧ Drawn w w' := by
  obtain ⟨t, p0, p1, p2⟩ := hQ i hi
  obtain ⟨u, q0, q1, q2⟩ := hQ k hk
  exact less_at g n c i k t u _ _ _ _ w hi hk p0 p1 p2 q0 q1 q2
end Go.Proofs.Qxb6616088a
