/-
  The byte guard: it answers some bool; where true the lengths are small.
-/
import Derived.Test.Qxb6616318aFmtW1
namespace Go.Proofs.Qxb6616318aFmt
open Go.RowKit

def tot (xs : List ByteArray) : Nat := (xs.map (·.size)).sum
theorem tot_take {xs : List ByteArray} {k : Nat} {x : ByteArray} (h : xs[k]? = some x) : tot (xs.take (k + 1)) = tot (xs.take k) + x.size := by
  unfold tot
  rw [List.take_add_one, h]
  simp
def Small (xs : List ByteArray) (e : Ending) : Prop := ∃ b : Bool, e = .returned (.bool b) ∧ (b = true → xs.length ≤ 1048576 ∧ tot xs ≤ 1048576)
theorem Small.no (xs : List ByteArray) : Small xs (.returned (.bool false)) := ⟨false, rfl, fun h => absurd h Bool.false_ne_true⟩

set_option maxRecDepth 100000 in
set_option maxHeartbeats 1000000 in
theorem c4_any (v old : ByteArray) (a : Option Addr) (c : Nat) (xs : List ByteArray) (t : Int) (w : World) (hx : StrsAt w a xs) (hv : v.size ≤ 9223372036854775807) (ho : old.size ≤ 9223372036854775807) (hxs : ∀ (j : Nat) x, xs[j]? = some x → x.size ≤ 9223372036854775807) (hn : xs.length ≤ 9223372036854775807) :
    Calls Tryf.prog 4 #[.string v, .slice a xs.length c, .string old, .int .i64 t] w fun e w' => Small xs e ∧ w' = w := by
  go_enter Tryf.func4, Tryf.ntmps4
  go_wp2
  all_goals first
    | (go_ret
       exact ⟨Small.no xs, rfl⟩)
    | skip
  go_loop [9, 10] (fun n i => ∃ k : Nat, n = .int .i64 ((v.size + xs.length + tot (xs.take k) : Nat) : Int) ∧ i = .int .i64 k ∧ k ≤ xs.length ∧ v.size + xs.length + tot (xs.take k) ≤ 1048576) (fun _ i => xs.length - (intOf i).toNat)
  case atStart => exact ⟨0, by simp [tot], rfl, by omega, by simp [tot]; omega⟩
  case round =>
    obtain ⟨k, rfl, rfl, hk, hs⟩ := hrel
    by_cases hkn : k < xs.length
    · have hget : xs[k]? = some xs[k] := List.getElem?_eq_getElem hkn
      obtain ⟨b, off, rfl, hl, hr⟩ := hx k _ hget
      have hxk := hxs k _ hget
      have ht := tot_take hget
      clear hx hxs
      go_wp2
      all_goals first
        | (go_ret
           exact ⟨Small.no xs, rfl⟩)
        | skip
      exact ⟨⟨k + 1, by rw [ht]; congr 1; omega, by simp, by omega, by rw [ht]; omega⟩, by simp [intOf]; omega⟩
    · obtain rfl : k = xs.length := by omega
      rw [List.take_length] at hs ⊢
      clear hx hxs
      go_wp2
      all_goals first
        | (go_ret
           exact ⟨Small.no xs, rfl⟩)
        | skip
      go_ret
      exact ⟨⟨true, rfl, fun _ => ⟨by omega, by omega⟩⟩, rfl⟩
end Go.Proofs.Qxb6616318aFmt
