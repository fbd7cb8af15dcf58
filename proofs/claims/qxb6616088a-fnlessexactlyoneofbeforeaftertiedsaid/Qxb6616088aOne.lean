/-
  THE STATEMENT 'Rows.FnLessExactlyOneOfBeforeAfterTiedSaid': the walk of the law.
-/
import Derived.Test.Qxb6616088aQueue
namespace Go.Proofs.Qxb6616088a
open Go.RowKit

set_option maxRecDepth 100000 in
set_option maxHeartbeats 1600000 in
theorem one_far (a : Option Addr) (n c : Nat) (i k : Int) (w : World) (h : 65536 < n ∨ i < 0 ∨ (n : Int) ≤ i ∨ k < 0 ∨ (n : Int) ≤ k) :
    Calls Try.prog 5 #[.slice a n c, .int .i64 i, .int .i64 k] w fun e w' => e = .returned (.bool true) ∧ Below w.heap.size w w' := by
  by_cases hz : n ≤ 1048576
  · have hzd : decide (n ≤ 1048576) = true := decide_eq_true hz
    by_cases hn : 65536 < n
    · go_enter Try.func5, Try.ntmps5
      go_wp2_with fail
      refine (c15_any i k a n c w).mono ?_
      rintro e w1 ⟨rfl, hw⟩
      obtain rfl : w = w1 := hw.symm
      rw [hzd]
      go_wp2_with fail
      go_ret
      exact ⟨rfl, Below.refl _ _⟩
    · have hgo : ∀ b1 b2 b3 b4 : Bool, decide (i < 0) = b1 → decide ((n : Int) ≤ i) = b2 → decide (k < 0) = b3 → decide ((n : Int) ≤ k) = b4 → (b1 || b2 || b3 || b4) = true → Calls Try.prog 5 #[.slice a n c, .int .i64 i, .int .i64 k] w fun e w' => e = .returned (.bool true) ∧ Below w.heap.size w w' := by
        intro b1 b2 b3 b4 h1 h2 h3 h4 hb
        clear h
        go_enter Try.func5, Try.ntmps5
        go_wp2_with fail
        refine (c15_any i k a n c w).mono ?_
        rintro e w1 ⟨rfl, hw⟩
        obtain rfl : w = w1 := hw.symm
        rw [hzd]
        cases b1 <;> cases b2 <;> cases b3 <;> cases b4 <;> first | (simp at hb; done) | skip
        all_goals
          clear hb
          go_wp2_with fail
          go_ret
          exact ⟨rfl, Below.refl _ _⟩
      exact hgo _ _ _ _ rfl rfl rfl rfl (by simp; omega)
  · have hzd : decide (n ≤ 1048576) = false := decide_eq_false hz
    go_enter Try.func5, Try.ntmps5
    go_wp2_with fail
    refine (c15_any i k a n c w).mono ?_
    rintro e w1 ⟨rfl, hw⟩
    obtain rfl : w = w1 := hw.symm
    rw [hzd]
    go_wp2_with fail
    go_ret
    exact ⟨rfl, Below.refl _ _⟩

/-- Of the three just one holds. -/
theorem three {l1 l2 : Bool} {e1 b1 e2 b2 : Int} (h1 : l1 = lessB e1 b1 e2 b2) (h2 : l2 = lessB e2 b2 e1 b1) :
    (l1 = true ∧ l2 = false ∧ ¬ (e1 = e2 ∧ b1 = b2)) ∨ (l1 = false ∧ l2 = true ∧ ¬ (e1 = e2 ∧ b1 = b2)) ∨ (l1 = false ∧ l2 = false ∧ e1 = e2 ∧ b1 = b2) := by
  subst h1 h2
  simp only [lessB, decide_eq_true_eq, decide_eq_false_iff_not]
  omega

set_option maxRecDepth 100000 in
set_option maxHeartbeats 1600000 in
theorem one_near (x o n c i k : Nat) (E B : Nat → Int) (w : World) (hn : n ≤ 65536) (hi : i < n) (hk : k < n) (hL : LeaseAt w x o n E B) (hx : x < w.heap.size) :
    Calls Try.prog 5 #[.slice (some ⟨x, o, none⟩) n c, .int .i64 i, .int .i64 k] w fun e w' => e = .returned (.bool true) ∧ Below w.heap.size w w' := by
  have hzd : decide (n ≤ 1048576) = true := decide_eq_true (by omega)
  have hi0 : decide ((i : Int) < 0) = false := decide_eq_false (by omega)
  have hi1 : decide ((n : Int) ≤ i) = false := decide_eq_false (by omega)
  have hk0 : decide ((k : Int) < 0) = false := decide_eq_false (by omega)
  have hk1 : decide ((n : Int) ≤ k) = false := decide_eq_false (by omega)
  go_enter Try.func5, Try.ntmps5
  go_wp2_with fail
  refine (c15_any i k _ n c w).mono ?_
  rintro e w1 ⟨rfl, hw⟩
  obtain rfl : w = w1 := hw.symm
  rw [hzd]
  go_wp2_with fail
  refine (c16_any x o n c E B w hn hL hx).mono ?_
  rintro e w1 ⟨rfl, hQ, hb⟩
  go_wp2_with fail
  refine (c17_any _ n n i k E B w1 hi hk hQ).mono ?_
  rintro e w2 ⟨rfl, hd⟩
  have hQ2 := hQ.drawn hd
  obtain ⟨l1, hl1⟩ : ∃ l, l = lessB (E i) (B i) (E k) (B k) := ⟨_, rfl⟩
  rw [← hl1]
  have hl1' : Hid _ := hl1
  clear hl1
  have hb2 := hb.trans hd.below
  clear hd hQ hb
  cases l1
  all_goals
    go_wp2_with fail
    refine (c17_any _ n n k i E B w2 hk hi hQ2).mono ?_
    rintro e w3 ⟨rfl, hd⟩
    obtain ⟨l2, hl2⟩ : ∃ l, l = lessB (E k) (B k) (E i) (B i) := ⟨_, rfl⟩
    rw [← hl2]
    have hl2' : Hid _ := hl2
    clear hl2
    have hb3 := hb2.trans hd.below
    clear hd hQ2 hb2
    have a1 := (hb3.cell (p := ⟨x, o + i * 2, none⟩) hx).trans (hL i hi).1
    have a2 := (hb3.cell (p := ⟨x, o + i * 2 + 1, none⟩) hx).trans (hL i hi).2
    have a3 := (hb3.cell (p := ⟨x, o + k * 2, none⟩) hx).trans (hL k hk).1
    have a4 := (hb3.cell (p := ⟨x, o + k * 2 + 1, none⟩) hx).trans (hL k hk).2
    have h3 := three hl1'.out hl2'.out
    clear hl1' hl2'
    cases l2
    all_goals
      by_cases hE : E i = E k
      all_goals
        by_cases hB : B i = B k
        all_goals first
          | (exfalso; simp [hE, hB] at h3; done)
          | (clear h3
             have hE1 : decide (E i = E k) = decide (E i = E k) := rfl
             first
               | (have hE2 : decide (E i = E k) = true := decide_eq_true hE)
               | (have hE2 : decide (E i = E k) = false := decide_eq_false hE)
             first
               | (have hB2 : decide (B i = B k) = true := decide_eq_true hB)
               | (have hB2 : decide (B i = B k) = false := decide_eq_false hB)
             first
               | (have hE3 : (E i == E k) = true := by simp [hE])
               | (have hE3 : (E i == E k) = false := by simp [hE])
             first
               | (have hB3 : (B i == B k) = true := by simp [hB])
               | (have hB3 : (B i == B k) = false := by simp [hB])
             clear hE hB hE1
             go_wp2_with fail
             go_quiet (fail)
             go_wp2_with fail
             go_ret
             exact ⟨rfl, below_drewN hb3 _⟩)
end Go.Proofs.Qxb6616088a
