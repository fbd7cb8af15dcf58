/-
  The plain laws: what is kept is the longest run of the newest whose weights fit. No Go in sight.
-/
import Derived.Test.Qxb6616082aHold
namespace Go.Proofs.Qxb6616082a

/-- What is held after all of ms. -/
def keepAll (bw : Int) (ms : List (Int × Bool)) : List (Int × Bool) := ms.foldl (fun es e => trimL bw (es ++ [e])) []

theorem keepAll_snoc (bw : Int) (ms : List (Int × Bool)) (e : Int × Bool) : keepAll bw (ms ++ [e]) = trimL bw (keepAll bw ms ++ [e]) := by
  simp [keepAll]

/-- The cut s is the best: what lies from it on fits, one more would not. -/
def Best (bw : Int) (ms : List (Int × Bool)) (s : Nat) : Prop :=
  s ≤ ms.length ∧ sumW bw (ms.drop s) ≤ 67108864 ∧ (0 < s → 67108864 < sumW bw (ms.drop (s - 1)))

theorem wt_pos {bw : Int} (h : 64 ≤ bw ∧ bw ≤ 67108864) (m : Bool) : 64 ≤ wt bw m ∧ wt bw m ≤ 67108864 := by
  cases m <;> simp [wt] <;> omega
theorem sumW_nonneg {bw : Int} (h : 64 ≤ bw ∧ bw ≤ 67108864) (es : List (Int × Bool)) : 0 ≤ sumW bw es := by
  induction es with
  | nil => simp [sumW]
  | cons e r ih => have := wt_pos h e.2; rw [sumW_cons]; omega
theorem sumW_append (bw : Int) (a b : List (Int × Bool)) : sumW bw (a ++ b) = sumW bw a + sumW bw b := by simp [sumW]

theorem trimL_best {bw : Int} (h : 64 ≤ bw ∧ bw ≤ 67108864) (ms : List (Int × Bool)) : ∀ (r : List (Int × Bool)) (s : Nat), s < ms.length → ms.drop s = r → (0 < s → 67108864 < sumW bw (ms.drop (s - 1))) →
    ∃ s', trimL bw r = ms.drop s' ∧ Best bw ms s' := by
  intro r
  induction r with
  | nil => intro s hs hr _; have := congrArg List.length hr; simp at this; omega
  | cons a r ih =>
    intro s hs hr hp
    cases r with
    | nil =>
      refine ⟨s, by rw [trimL, hr], by omega, ?_, hp⟩
      rw [hr]
      have := wt_pos h a.2
      simp [sumW]; omega
    | cons b r =>
      by_cases hc : 67108864 < sumW bw (a :: b :: r)
      · rw [trimL, if_pos hc]
        have hd : ms.drop (s + 1) = b :: r := by
          rw [← List.drop_drop, hr]; rfl
        have hlt : s + 1 < ms.length := by
          have := congrArg List.length hd; simp at this; omega
        exact ih (s + 1) hlt hd (fun _ => by rw [Nat.add_sub_cancel, hr]; exact hc)
      · exact ⟨s, by rw [trimL, if_neg hc, hr], by omega, by rw [hr]; omega, hp⟩

theorem keepAll_best {bw : Int} (h : 64 ≤ bw ∧ bw ≤ 67108864) (ms : List (Int × Bool)) : ∃ s, keepAll bw ms = ms.drop s ∧ Best bw ms s := by
  obtain ⟨rs, rfl⟩ : ∃ rs, ms = rs.reverse := ⟨ms.reverse, by simp⟩
  induction rs with
  | nil => exact ⟨0, by simp [keepAll], by simp [Best, sumW]⟩
  | cons e rs ih =>
    obtain ⟨s, h1, h2, h3, h4⟩ := ih
    rw [List.reverse_cons, keepAll_snoc, h1]
    have hd : (rs.reverse ++ [e]).drop s = rs.reverse.drop s ++ [e] := by rw [List.drop_append_of_le_length h2]
    refine trimL_best h (rs.reverse ++ [e]) _ s (by simp at h2 ⊢; omega) hd (fun hs => ?_)
    have h5 := h4 hs
    rw [List.drop_append_of_le_length (by omega), sumW_append]
    have := sumW_nonneg h [e]
    omega

theorem sumW_drop_mono {bw : Int} (h : 64 ≤ bw ∧ bw ≤ 67108864) (ms : List (Int × Bool)) (a b : Nat) (hab : a ≤ b) : sumW bw (ms.drop b) ≤ sumW bw (ms.drop a) := by
  have e : ms.drop a = (ms.drop a).take (b - a) ++ ms.drop b := by
    have e2 : ms.drop b = (ms.drop a).drop (b - a) := by rw [List.drop_drop]; congr 1; omega
    rw [e2, List.take_append_drop]
  rw [e, sumW_append]
  have := sumW_nonneg h ((ms.drop a).take (b - a))
  omega

theorem best_unique {bw : Int} (h : 64 ≤ bw ∧ bw ≤ 67108864) (ms : List (Int × Bool)) (s t : Nat) (hs : Best bw ms s) (ht : Best bw ms t) : s = t := by
  obtain ⟨s1, s2, s3⟩ := hs
  obtain ⟨t1, t2, t3⟩ := ht
  rcases Nat.lt_trichotomy s t with hlt | rfl | hlt
  · have a := t3 (by omega)
    have b := sumW_drop_mono h ms s (t - 1) (by omega)
    omega
  · rfl
  · have a := s3 (by omega)
    have b := sumW_drop_mono h ms t (s - 1) (by omega)
    omega

theorem keepAll_of_best {bw : Int} (h : 64 ≤ bw ∧ bw ≤ 67108864) (ms : List (Int × Bool)) (t : Nat) (ht : Best bw ms t) : keepAll bw ms = ms.drop t := by
  obtain ⟨s, h1, h2⟩ := keepAll_best h ms
  rw [h1, best_unique h ms s t h2 ht]

theorem keepAll_length {bw : Int} (h : 64 ≤ bw ∧ bw ≤ 67108864) (ms : List (Int × Bool)) : (keepAll bw ms).length ≤ ms.length := by
  obtain ⟨s, h1, _⟩ := keepAll_best h ms
  rw [h1]; simp

/-- One batch, again and again. -/
def reps (zs : List Int) : List (Int × Bool) := zs.map fun z => (z, true)
theorem sumW_reps (bw : Int) (zs : List Int) : sumW bw (reps zs) = zs.length * bw := by
  induction zs with
  | nil => simp [reps, sumW]
  | cons z r ih =>
    have : reps (z :: r) = (z, true) :: reps r := rfl
    rw [this, sumW_cons, ih]
    simp [wt, Int.add_mul]; omega
theorem reps_drop (zs : List Int) (k : Nat) : (reps zs).drop k = reps (zs.drop k) := by simp [reps, List.map_drop]

theorem keepAll_reps {bw : Int} (h : 64 ≤ bw ∧ bw ≤ 67108864) (zs : List Int) (c : Nat) (hc : c ≤ zs.length) (h1 : (c : Int) ≤ 67108864 / bw) (h2 : c < zs.length → (c : Int) = 67108864 / bw) :
    keepAll bw (reps zs) = reps (zs.drop (zs.length - c)) := by
  rw [keepAll_of_best h (reps zs) (zs.length - c), reps_drop]
  have hq0 : 67108864 / bw * bw ≤ 67108864 := Int.ediv_mul_le _ (by omega)
  have hq1 : 67108864 < (67108864 / bw + 1) * bw := Int.lt_ediv_add_one_mul_self _ (by omega)
  refine ⟨by simp [reps], ?_, fun hp => ?_⟩
  · rw [reps_drop, sumW_reps, List.length_drop]
    have e : zs.length - (zs.length - c) = c := by omega
    rw [e]
    have := Int.mul_le_mul_of_nonneg_right h1 (show 0 ≤ bw by omega)
    omega
  · rw [reps_drop, sumW_reps, List.length_drop]
    have e : zs.length - (zs.length - c - 1) = c + 1 := by omega
    rw [e, Int.natCast_add, h2 (by omega)]
    exact hq1
end Go.Proofs.Qxb6616082a
