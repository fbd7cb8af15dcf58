/-
  The leaves: footprint, heldSize, the makers and the getters.
-/
import Derived.Test.Qxb6616082aHeld
import Derived.WalkKit
import Derived.WalkSpells
import Derived.WalkLawsBesides
namespace Go.Proofs.Qxb6616082a
open Go.RowKit

set_option maxHeartbeats 400000 in
theorem c6_any (r i n : Int) (a : Option Addr) (k c : Nat) (w : World) :
    Calls Try.prog 6 #[.int .u64 r, .int .i64 i, .int .u64 n, .slice a k c] w fun e w' => e = .returned (.pointer (some ⟨w.heap.size, 0, none⟩)) ∧ w' = w.alloc (.cells #[.int .u64 r, .int .i64 i, .int .u64 n, .slice a k c] 45) := by
  go_enter Try.func6, Try.ntmps6
  go_wp2
  go_ret
  exact ⟨rfl, rfl⟩

set_option maxHeartbeats 400000 in
theorem c7_any (w : World) :
    Calls Try.prog 7 #[] w fun e w' => e = .returned (.pointer (some ⟨w.heap.size, 0, none⟩)) ∧ w' = w.alloc (.cells #[.slice none 0 0, .bool false, .int .u64 0, .int .i64 0, .pointer none, .map none, .map none, .map none, .slice none 0 0, .int .i64 0] 54) := by
  go_enter Try.func7, Try.ntmps7
  go_wp2
  go_ret
  exact ⟨rfl, rfl⟩

set_option maxHeartbeats 400000 in
theorem c9_any (b n c : Nat) (a : Option Addr) (w : World) (h : w.cell? ⟨b, 8, none⟩ = some (.slice a n c)) :
    Calls Try.prog 9 #[.pointer (some ⟨b, 0, none⟩)] w fun e w' => e = .returned (.int .i64 n) ∧ w' = w := by
  go_enter Try.func9, Try.ntmps9
  go_wp2
  go_ret
  exact ⟨rfl, rfl⟩
set_option maxHeartbeats 400000 in
theorem c10_any (b : Nat) (n : Int) (w : World) (h : w.cell? ⟨b, 9, none⟩ = some (.int .i64 n)) :
    Calls Try.prog 10 #[.pointer (some ⟨b, 0, none⟩)] w fun e w' => e = .returned (.int .i64 n) ∧ w' = w := by
  go_enter Try.func10, Try.ntmps10
  go_wp2
  go_ret
  exact ⟨rfl, rfl⟩
set_option maxHeartbeats 400000 in
theorem c11_any (b g off n c k : Nat) (f : Int) (w : World) (h : w.cell? ⟨b, 8, none⟩ = some (.slice (some ⟨g, off, none⟩) n c)) (hk : k < n) (hf : w.cell? ⟨g, off + k * 2, none⟩ = some (.int .i64 f)) :
    Calls Try.prog 11 #[.pointer (some ⟨b, 0, none⟩), .int .i64 k] w fun e w' => e = .returned (.int .i64 f) ∧ w' = w := by
  go_enter Try.func11, Try.ntmps11
  go_wp2
  go_ret
  exact ⟨rfl, rfl⟩

theorem ta63 (v : Value) (w : World) : (Instr.typeAssert (.iface 63 v) 57 29 true).run Try.prog w = .ok (.tuple #[.pointer none, .bool false]) w := by kernel_rfl
theorem ta29 (a : Option Addr) (w : World) : (Instr.typeAssert (.iface 29 (.pointer a)) 57 29 true).run Try.prog w = .ok (.tuple #[.pointer a, .bool true]) w := by kernel_rfl

set_option maxRecDepth 100000 in
set_option maxHeartbeats 400000 in
theorem c17_prop (v : Value) (w : World)  :
    Calls Try.prog 17 #[.iface 63 v] w fun e w' => e = .returned (.int .i64 64) ∧ w' = w := by
  have hta := ta63
  go_enter Try.func17, Try.ntmps17
  go_wp2
  go_ret
  exact ⟨rfl, rfl⟩

/-- The footprint of the requests. -/
def foot (ss : List ByteArray) : Int := (ss.map fun s => 96 + (s.size : Int)).sum

theorem foot_snoc (ss : List ByteArray) (s : ByteArray) : foot (ss ++ [s]) = foot ss + (96 + (s.size : Int)) := by
  simp [foot]
theorem foot_nonneg (ss : List ByteArray) : 0 ≤ foot ss := by
  induction ss with
  | nil => simp [foot]
  | cons s r ih => simp [foot] at *; omega

theorem foot_append (a b : List ByteArray) : foot (a ++ b) = foot a + foot b := by
  simp [foot]
theorem foot_take_le (ss : List ByteArray) (k : Nat) : foot (ss.take k) ≤ foot ss := by
  have h := foot_append (ss.take k) (ss.drop k)
  rw [List.take_append_drop] at h
  have := foot_nonneg (ss.drop k)
  omega
theorem foot_take_succ (ss : List ByteArray) (k : Nat) (h : k < ss.length) : foot (ss.take (k + 1)) = foot (ss.take k) + (96 + (ss[k].size : Int)) := by
  rw [List.take_succ_eq_append_getElem h, foot_snoc]

/-- Block b holds the requests, one a name of ss. -/
def ReqAt (w : World) (b : Nat) (ss : List ByteArray) : Prop :=
  ∀ i (h : i < ss.length), w.cell? ⟨b, i * 6, none⟩ = some (.int .u64 0) ∧ w.cell? ⟨b, i * 6 + 1, none⟩ = some (.int .u64 0) ∧ w.cell? ⟨b, i * 6 + 2, none⟩ = some (.int .u64 0) ∧ w.cell? ⟨b, i * 6 + 3, none⟩ = some (.int .u64 0) ∧
    w.cell? ⟨b, i * 6 + 4, none⟩ = some (.string ss[i]) ∧ w.cell? ⟨b, i * 6 + 5, none⟩ = some (.slice none 0 0)

theorem ret_int {k : IntKind} {a b : Int} (h : a = b) : Ending.returned (.int k a) = .returned (.int k b) := by rw [h]

set_option maxRecDepth 100000 in
set_option maxHeartbeats 1000000 in
theorem c18_any (ss : List ByteArray) (b : Nat) (hn : ss.length ≤ 65536) (hs : foot ss ≤ 16777216) (w : World) (hbl : b < w.heap.size) (h : ReqAt w b ss) :
    Calls Try.prog 18 #[.slice (some ⟨b, 0, none⟩) ss.length ss.length] w fun e w' => e = .returned (.int .i64 (foot ss)) ∧ Below w.heap.size w w' := by
  go_enter Try.func18, Try.ntmps18
  go_wp2
  go_loopw [3, 10] (fun t i wr => ∃ k : Nat, k ≤ ss.length ∧ i = .int .i64 k ∧ t = .int .i64 (foot (ss.take k)) ∧ Below w.heap.size w wr) (fun _ i _ => ss.length - (intOf i).toNat)
  case atStart => exact ⟨0, Nat.zero_le _, rfl, rfl, Below.refl _ _⟩
  case round =>
    obtain ⟨k, hk, rfl, rfl, hbel⟩ := hrel
    by_cases hlt : k < ss.length
    · obtain ⟨c0, c1, c2, c3, c4, c5⟩ := h k hlt
      rw [← hbel.cell (p := ⟨b, _, none⟩) hbl] at c0 c1 c2 c3 c4 c5
      clear h
      have n0 := foot_nonneg (ss.take k)
      have n1 := foot_take_le ss k
      have n2 := foot_take_le ss (k + 1)
      have n3 : Hid (foot (ss.take (k + 1)) = foot (ss.take k) + (96 + (ss[k].size : Int))) := foot_take_succ ss k hlt
      have n4 : (ss[k].size : Int) ≤ 16777216 := by have := n3.out; omega
      have n5 := hbel.size
      go_wp2
      go_loopw [3, 23] (fun t i wq => i = .int .i64 0 ∧ t = .int .i64 (foot (ss.take k) + (96 + (ss[k].size : Int))) ∧ Below w.heap.size w wq) (fun _ _ _ => 0)
      case atStart => exact ⟨rfl, rfl, hbel.alloc n5 _⟩
      case round =>
        obtain ⟨rfl, rfl, hq⟩ := hrel
        go_wp2
        go_roundw
        case rel => exact ⟨k + 1, by omega, by go_num, by rw [n3.out], hq⟩
        case measure => simp [intOf]; omega
    · go_wp2
      go_ret
      exact ⟨ret_int (by rw [List.take_of_length_le (by omega)]), hbel⟩

set_option maxRecDepth 100000 in
set_option maxHeartbeats 1000000 in
theorem c17_batch (ss : List ByteArray) (bb br : Nat) (hn : ss.length ≤ 65536) (hs : foot ss ≤ 16777216) (w : World) (hbl : br < w.heap.size) (hbb : w.cell? ⟨bb, 3, none⟩ = some (.slice (some ⟨br, 0, none⟩) ss.length ss.length)) (h : ReqAt w br ss) :
    Calls Try.prog 17 #[.iface 29 (.pointer (some ⟨bb, 0, none⟩))] w fun e w' => e = .returned (.int .i64 (64 + foot ss)) ∧ Below w.heap.size w w' := by
  have hta := ta29
  have n0 := foot_nonneg ss
  go_enter Try.func17, Try.ntmps17
  go_wp2_with (go_at_call 18; refine (c18_any ss br hn hs _ hbl h).mono ?_; rintro e w' ⟨rfl, hw'⟩)
  go_ret
  exact ⟨rfl, hw'⟩
end Go.Proofs.Qxb6616082a
