/-
  The walk of FnHoldMixedKeepsNewestSuffix.
-/
import Derived.Test.Qxb6616082aRep
namespace Go.Proofs.Qxb6616082a
open Go.RowKit

theorem Held4.stepM {w wq w2 : World} {bj bb br : Nat} {ss : List ByteArray} {ms : List (Int × Bool)} {k : Nat} {f : Int} {m : Bool} (h : Held4 w wq bj bb br ss (ms.take k)) (hw : w.heap.size ≤ bj) (hbb : bb < bj) (hbr : br < bj) (hk : k < ms.length)
    (hf : ms[k].1 = f) (hm : ms[k].2 = m)
    (g1 : JAt w2 bj bb (64 + foot ss) (trimL (64 + foot ss) (keepAll (64 + foot ss) (ms.take k) ++ [(f, m)]))) (g2 : Below bj wq w2) (g3 : bj < w2.heap.size) :
    Held4 w w2 bj bb br ss (ms.take (k + 1)) := by
  refine ⟨h.below.trans (g2.mono hw), g3, h.batch.below g2 hbb hbr, ?_⟩
  have e : ms.take (k + 1) = ms.take k ++ [(f, m)] := by
    rw [List.take_succ_eq_append_getElem hk, ← hf, ← hm]
  rw [e, keepAll_snoc]
  exact g1

theorem mix_facts {w wq : World} {bj bb br : Nat} {ss : List ByteArray} {ms : List (Int × Bool)} (hf : foot ss ≤ 16777216) (h : Held4 w wq bj bb br ss ms) (s c : Nat) (hb : Best (64 + foot ss) ms s) (hc : c + s = ms.length) :
    (∃ ao cap, wq.cell? ⟨bj, 8, none⟩ = some (.slice ao c cap) ∧ ∀ k, k < c → ∃ g off, ao = some ⟨g, off, none⟩ ∧ wq.cell? ⟨g, off + k * 2, none⟩ = some (.int .i64 (ms.getD (s + k) (0, false)).1) ∧ wq.cell? ⟨g, off + k * 2 + 1, none⟩ = some (.iface (mt (ms.getD (s + k) (0, false)).2) (mx bb (ms.getD (s + k) (0, false)).2))) ∧
      wq.cell? ⟨bj, 9, none⟩ = some (.int .i64 (sumW (64 + foot ss) (ms.drop s))) := by
  have n0 := foot_nonneg ss
  have hk := keepAll_of_best (bw := 64 + foot ss) (by omega) ms s hb
  have hJ := h.jat
  rw [hk] at hJ
  have hl : (ms.drop s).length = c := by rw [List.length_drop]; omega
  obtain ⟨ao, cap, j1, j2, j3, _, _⟩ := hJ
  rw [hl] at j1
  refine ⟨⟨ao, cap, j1, fun k hk => ?_⟩, j3⟩
  rcases j2 with ⟨_, _, e⟩ | ⟨g, off, F, e, _, e1, e2, e3⟩
  · have := congrArg List.length e
    rw [hl] at this
    simp at this; omega
  · rw [hl] at e1
    have e4 := e3 k (by rw [hl]; exact hk)
    have hlt : s + k < ms.length := by omega
    refine ⟨g, off, e, ?_, ?_⟩
    · rw [e2.cell (by omega), e4.1]
      simp [hlt]
    · rw [e2.cell (by omega), e4.2]
      simp [hlt]

theorem best_zero {bw : Int} {ms : List (Int × Bool)} (h : sumW bw (ms.drop 0) ≤ 67108864) : Best bw ms 0 := ⟨Nat.zero_le _, h, fun h => by omega⟩
theorem best_or (bw : Int) (ms : List (Int × Bool)) (st : Nat) (hst : st ≤ ms.length) (hle : sumW bw (ms.drop st) ≤ 67108864) :
    Best bw ms st ∨ ∃ t, st = t + 1 ∧ (st = ms.length ∨ sumW bw (ms.drop t) ≤ 67108864) := by
  cases st with
  | zero => exact .inl (best_zero hle)
  | succ t =>
    by_cases h : 67108864 < sumW bw (ms.drop t)
    · exact .inl ⟨hst, hle, fun _ => h⟩
    · exact .inr ⟨t, rfl, .inr (by omega)⟩
theorem sumW_drop_pred (bw : Int) (ms : List (Int × Bool)) (s : Nat) (hs : s < ms.length) : sumW bw (ms.drop s) = sumW bw (ms.drop (s + 1)) + wt bw ms[s].2 := by
  rw [List.drop_eq_getElem_cons hs, sumW_cons]; omega

theorem best_succ {bw : Int} {ms : List (Int × Bool)} {t : Nat} (h : 64 ≤ bw ∧ bw ≤ 67108864) (hb : Best bw ms (t + 1)) : 67108864 < sumW bw (ms.drop t) ∧ t + 1 < ms.length := by
  obtain ⟨h1, h2, h3⟩ := hb
  have h4 := h3 (by omega)
  rw [Nat.add_sub_cancel] at h4
  refine ⟨h4, ?_⟩
  rcases Nat.lt_or_ge (t + 1) ms.length with hlt | hge
  · exact hlt
  · have e := sumW_drop_pred bw ms t (by omega)
    rw [List.drop_of_length_le hge] at e
    have := wt_pos h ms[t].2
    simp [sumW] at e h4
    omega

theorem BatchAt.drawn {w : World} {bb br : Nat} {ss : List ByteArray} (h : BatchAt w bb br ss) (n : Nat) : BatchAt (w.drewN n) bb br ss := h
theorem below_more {w wq w2 : World} {n : Nat} (h : Below w.heap.size w wq) (h2 : Below (wq.drewN n).heap.size (wq.drewN n) w2) : Below w.heap.size w w2 :=
  h.trans ⟨h2.os, h2.tape, h2.output, h2.size, fun k hk => h2.block k (Nat.lt_of_lt_of_le hk h.size)⟩

set_option maxRecDepth 100000 in
set_option maxHeartbeats 400000 in
theorem walk4_ne (a0 a1 a2 : Option Addr) (n0 n1 c0 c1 c2 : Nat) (ss : List ByteArray) (w : World) (hne : n1 ≠ n0)
    (h2 : RowAt w a2 ss.length (fun i => .string (ss.getD i ByteArray.empty))) :
    Calls Try.prog 4 #[.slice a0 n0 c0, .slice a1 n1 c1, .slice a2 ss.length c2] w fun e w' => e = .returned (.bool true) ∧ Below w.heap.size w w' := by
  have hne2 : ((n1 : Int) != (n0 : Int)) = true := by rw [bne_iff_ne]; omega
  go_enter Try.func4, Try.ntmps4
  go_wp2_with fail
  refine (c13_any a0 a1 a2 n0 c0 n1 c1 ss.length c2 _ _ h2).mono ?_
  rintro e w' ⟨⟨b, rfl, hsh⟩, hw⟩
  obtain rfl : w = w' := hw.symm
  clear hw
  cases b with
  | false =>
    go_wp2_with fail
    go_ret
    exact ⟨rfl, Below.refl _ _⟩
  | true =>
    by_cases hz : 4096 < n0
    · go_wp2_with fail
      go_ret
      exact ⟨rfl, Below.refl _ _⟩
    by_cases hb : 4096 < n1
    · go_wp2_with fail
      go_ret
      exact ⟨rfl, Below.refl _ _⟩
    by_cases hs : 65536 < ss.length
    · go_wp2_with fail
      go_ret
      exact ⟨rfl, Below.refl _ _⟩
    by_cases ht : 1048576 < 8 * n0 + n1 + 16 * ss.length
    · go_wp2_with fail
      go_ret
      exact ⟨rfl, Below.refl _ _⟩
    have hz' : (n0 : Int) ≤ 4096 := by omega
    have hb' : (n1 : Int) ≤ 4096 := by omega
    have hs' : (ss.length : Int) ≤ 65536 := by omega
    have ht' : 8 * (n0 : Int) + n1 + 16 * (ss.length : Int) ≤ 1048576 := by omega
    have hsh' := hsh rfl
    clear hsh hz hb hs ht
    go_wp2_with fail
    go_loop [7, 8] (fun t i => ∃ k : Nat, k ≤ ss.length ∧ i = .int .i64 k ∧ t = .int .i64 (8 * (n0 : Int) + n1 + 16 * (ss.length : Int) + lenS (ss.take k)) ∧ 8 * (n0 : Int) + n1 + 16 * (ss.length : Int) + lenS (ss.take k) ≤ 1048576) (fun _ i => ss.length - (intOf i).toNat)
    case atStart => exact ⟨0, Nat.zero_le _, rfl, by simp [lenS], by simpa [lenS] using ht'⟩
    case round =>
      obtain ⟨k, hk, rfl, rfl, hle⟩ := hrel
      have n0 := lenS_nonneg (ss.take k)
      by_cases hlt : k < ss.length
      · obtain ⟨b, off, rfl, hc⟩ := h2 k hlt
        have n1 : Hid _ := lenS_take_succ ss k hlt
        have n2 : ss[k].size ≤ 1048576 := by have := hsh' k hlt; simpa [hlt] using this
        clear h2 hsh'
        go_wp2_with fail
        · go_ret
          exact ⟨rfl, Below.refl _ _⟩
        · go_round
          case rel => exact ⟨k + 1, by omega, by go_num, by rw [n1.out]; go_num, by rw [n1.out]; omega⟩
          case measure => simp [intOf]; omega
      · go_wp2_with fail
        go_ret
        exact ⟨rfl, Below.refl _ _⟩
end Go.Proofs.Qxb6616082a
