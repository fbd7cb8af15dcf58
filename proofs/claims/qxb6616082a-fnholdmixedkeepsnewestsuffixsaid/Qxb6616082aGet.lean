/-
  The getters, the two ways into hold, the bounds on total length.
-/
import Derived.Test.Qxb6616082aHold
namespace Go.Proofs.Qxb6616082a
open Go.RowKit

set_option maxRecDepth 100000 in
set_option maxHeartbeats 400000 in
theorem c8_any (ss : List ByteArray) (bj bb br : Nat) (f : Int) (es : List (Int × Bool)) (hn : ss.length ≤ 65536) (hs : foot ss ≤ 16777216) (he : es.length ≤ 4096) (w : World) (hjl : bj < w.heap.size) (hbb : bb < bj) (hbr : br < bj) (hB : BatchAt w bb br ss) (hJ : JAt w bj bb (64 + foot ss) es) :
    Calls Try.prog 8 #[.pointer (some ⟨bj, 0, none⟩), .int .i64 f, .pointer (some ⟨bb, 0, none⟩)] w fun e w' => e = .returned (.tuple #[]) ∧ JAt w' bj bb (64 + foot ss) (trimL (64 + foot ss) (es ++ [(f, true)])) ∧ Below bj w w' ∧ bj < w'.heap.size := by
  go_enter Try.func8, Try.ntmps8
  go_wp2_with (go_at_call 16; refine (hold1 ss bj bb br f true es hn hs he _ hjl hbb hbr hB hJ).mono ?_; rintro e w' ⟨rfl, h1, h2, h3⟩)
  go_end0
  exact ⟨rfl, h1, h2, h3⟩

set_option maxRecDepth 100000 in
set_option maxHeartbeats 400000 in
theorem c14_any (ss : List ByteArray) (bj bb br : Nat) (f : Int) (es : List (Int × Bool)) (hn : ss.length ≤ 65536) (hs : foot ss ≤ 16777216) (he : es.length ≤ 4096) (w : World) (hjl : bj < w.heap.size) (hbb : bb < bj) (hbr : br < bj) (hB : BatchAt w bb br ss) (hJ : JAt w bj bb (64 + foot ss) es) :
    Calls Try.prog 14 #[.pointer (some ⟨bj, 0, none⟩), .int .i64 f] w fun e w' => e = .returned (.tuple #[]) ∧ JAt w' bj bb (64 + foot ss) (trimL (64 + foot ss) (es ++ [(f, false)])) ∧ Below bj w w' ∧ bj < w'.heap.size := by
  go_enter Try.func14, Try.ntmps14
  go_wp2_with (go_at_call 16; refine (hold1 ss bj bb br f false es hn hs he _ hjl hbb hbr hB hJ).mono ?_; rintro e w' ⟨rfl, h1, h2, h3⟩)
  go_end0
  exact ⟨rfl, h1, h2, h3⟩

/-- What ZZheldBatch hands back. -/
def bp (bb : Nat) (m : Bool) : Option Addr := if m then some ⟨bb, 0, none⟩ else none

theorem ta_any (bb : Nat) (m : Bool) (w : World) : (Instr.typeAssert (.iface (mt m) (mx bb m)) 57 29 true).run Try.prog w = .ok (.tuple #[.pointer (bp bb m), .bool m]) w := by
  cases m with
  | true => exact ta29 _ w
  | false => exact ta63 _ w

set_option maxRecDepth 100000 in
set_option maxHeartbeats 400000 in
theorem c12_any (b bb g off n c k : Nat) (m : Bool) (w : World) (h : w.cell? ⟨b, 8, none⟩ = some (.slice (some ⟨g, off, none⟩) n c)) (hk : k < n) (hf : w.cell? ⟨g, off + k * 2 + 1, none⟩ = some (.iface (mt m) (mx bb m))) :
    Calls Try.prog 12 #[.pointer (some ⟨b, 0, none⟩), .int .i64 k] w fun e w' => e = .returned (.pointer (bp bb m)) ∧ w' = w := by
  have hta := ta_any
  go_enter Try.func12, Try.ntmps12
  go_wp2
  go_ret
  exact ⟨rfl, rfl⟩

set_option maxRecDepth 100000 in
set_option maxHeartbeats 400000 in
theorem c15_any (ss : List ByteArray) (b bb br g off n c k : Nat) (m : Bool) (hn : ss.length ≤ 65536) (hs : foot ss ≤ 16777216) (w : World) (hbl : br < w.heap.size) (hB : BatchAt w bb br ss) (h : w.cell? ⟨b, 8, none⟩ = some (.slice (some ⟨g, off, none⟩) n c)) (hk : k < n) (hf : w.cell? ⟨g, off + k * 2 + 1, none⟩ = some (.iface (mt m) (mx bb m))) :
    Calls Try.prog 15 #[.pointer (some ⟨b, 0, none⟩), .int .i64 k] w fun e w' => e = .returned (.int .i64 (wt (64 + foot ss) m)) ∧ Below w.heap.size w w' := by
  go_enter Try.func15, Try.ntmps15
  go_wp2_with (go_at_call 17; refine (c17_any ss bb br m hn hs _ hbl hB).mono ?_; rintro e w' ⟨rfl, h2⟩)
  go_ret
  exact ⟨rfl, h2⟩

/-- It returned true or false; where true, every name is short. -/
def Short (S : Nat → ByteArray) (n : Nat) : Prop := ∀ i, i < n → (S i).size ≤ 1048576
def IsBool (S : Nat → ByteArray) (n : Nat) (e : Ending) : Prop := ∃ b, e = .returned (.bool b) ∧ (b = true → Short S n)
theorem Short.snoc {S : Nat → ByteArray} {k : Nat} (h : Short S k) (h1 : (S k).size ≤ 1048576) : Short S (k + 1) := fun i hi => by
  by_cases e : i = k
  · subst e; exact h1
  · exact h i (by omega)
theorem isBool_false (S : Nat → ByteArray) (n : Nat) : IsBool S n (.returned (.bool false)) := ⟨false, rfl, fun h => by cases h⟩

/-- A slice that came in: its cells. -/
def RowAt (w : World) (ao : Option Addr) (n : Nat) (f : Nat → Value) : Prop :=
  ∀ i, i < n → ∃ b off, ao = some ⟨b, off, none⟩ ∧ w.cell? ⟨b, off + i, none⟩ = some (f i)

set_option maxRecDepth 100000 in
set_option maxHeartbeats 1000000 in
theorem c5_any (a0 a1 : Option Addr) (n0 c0 n1 c1 : Nat) (S : Nat → ByteArray) (w : World) (h : RowAt w a1 n1 (fun i => .string (S i))) :
    Calls Try.prog 5 #[.slice a0 n0 c0, .slice a1 n1 c1] w fun e w' => IsBool S n1 e ∧ w' = w := by
  go_enter Try.func5, Try.ntmps5
  go_wp2_with fail
  · go_ret
    exact ⟨isBool_false _ _, rfl⟩
  · go_ret
    exact ⟨isBool_false _ _, rfl⟩
  · go_ret
    exact ⟨isBool_false _ _, rfl⟩
  · go_loop [5, 6] (fun t i => ∃ (k : Nat) (z : Int), k ≤ n1 ∧ Short S k ∧ i = .int .i64 k ∧ t = .int .i64 z ∧ 0 ≤ z ∧ z ≤ 1048576) (fun _ i => n1 - (intOf i).toNat)
    case atStart => exact ⟨0, _, Nat.zero_le _, (fun i hi => by omega), rfl, rfl, by omega, by omega⟩
    case round =>
      obtain ⟨k, z, hk, hsh, rfl, rfl, hz0, hz1⟩ := hrel
      by_cases hlt : k < n1
      · obtain ⟨b, off, rfl, hc⟩ := h k hlt
        clear h
        go_wp2_with fail
        · go_ret
          exact ⟨isBool_false _ _, rfl⟩
        · go_ret
          exact ⟨isBool_false _ _, rfl⟩
        · go_round
          case rel => exact ⟨k + 1, _, by omega, hsh.snoc (by omega), by go_num, rfl, by omega, by omega⟩
          case measure => simp [intOf]; omega
      · go_wp2_with fail
        go_ret
        exact ⟨⟨_, rfl, fun _ i hi => hsh i (by omega)⟩, rfl⟩

set_option maxRecDepth 100000 in
set_option maxHeartbeats 1000000 in
theorem c13_any (a0 a1 a2 : Option Addr) (n0 c0 n1 c1 n2 c2 : Nat) (S : Nat → ByteArray) (w : World) (h : RowAt w a2 n2 (fun i => .string (S i))) :
    Calls Try.prog 13 #[.slice a0 n0 c0, .slice a1 n1 c1, .slice a2 n2 c2] w fun e w' => IsBool S n2 e ∧ w' = w := by
  go_enter Try.func13, Try.ntmps13
  go_wp2_with fail
  · go_ret
    exact ⟨isBool_false _ _, rfl⟩
  · go_ret
    exact ⟨isBool_false _ _, rfl⟩
  · go_ret
    exact ⟨isBool_false _ _, rfl⟩
  · go_ret
    exact ⟨isBool_false _ _, rfl⟩
  · go_ret
    exact ⟨isBool_false _ _, rfl⟩
  · go_loop [7, 8] (fun t i => ∃ (k : Nat) (z : Int), k ≤ n2 ∧ Short S k ∧ i = .int .i64 k ∧ t = .int .i64 z ∧ 0 ≤ z ∧ z ≤ 1048576) (fun _ i => n2 - (intOf i).toNat)
    case atStart => exact ⟨0, _, Nat.zero_le _, (fun i hi => by omega), rfl, rfl, by omega, by omega⟩
    case round =>
      obtain ⟨k, z, hk, hsh, rfl, rfl, hz0, hz1⟩ := hrel
      by_cases hlt : k < n2
      · obtain ⟨b, off, rfl, hc⟩ := h k hlt
        clear h
        go_wp2_with fail
        · go_ret
          exact ⟨isBool_false _ _, rfl⟩
        · go_ret
          exact ⟨isBool_false _ _, rfl⟩
        · go_round
          case rel => exact ⟨k + 1, _, by omega, hsh.snoc (by omega), by go_num, rfl, by omega, by omega⟩
          case measure => simp [intOf]; omega
      · go_wp2_with fail
        go_ret
        exact ⟨⟨_, rfl, fun _ i hi => hsh i (by omega)⟩, rfl⟩
end Go.Proofs.Qxb6616082a
