/-
  The walk of FnHoldRepeatedBatchKeepsNewest.
-/
import Derived.Test.Qxb6616082aFill
import Derived.Deep.QuietTactic
import Derived.BigQuiet
namespace Go.Proofs.Qxb6616082a
open Go.RowKit

/-- The bytes of the names. -/
def lenS (ss : List ByteArray) : Int := (ss.map fun s => (s.size : Int)).sum
theorem lenS_nonneg (ss : List ByteArray) : 0 ≤ lenS ss := by
  induction ss with
  | nil => simp [lenS]
  | cons s r ih => simp [lenS] at *; omega
theorem foot_lenS (ss : List ByteArray) : foot ss = 96 * ss.length + lenS ss := by
  induction ss with
  | nil => simp [foot, lenS]
  | cons s r ih => simp [foot, lenS] at *; omega
theorem lenS_take_succ (ss : List ByteArray) (k : Nat) (h : k < ss.length) : lenS (ss.take (k + 1)) = lenS (ss.take k) + (ss[k].size : Int) := by
  rw [List.take_succ_eq_append_getElem h]
  simp only [lenS, List.map_append, List.sum_append, List.map_cons, List.map_nil, List.sum_cons, List.sum_nil, Int.add_zero]

theorem reps_length (zs : List Int) : (reps zs).length = zs.length := by simp [reps]
/-- wq is wr, but for draws. -/
def Drawn (wr wq : World) : Prop := ∃ n, wq = wr.drewN n
theorem Drawn.refl (w : World) : Drawn w w := ⟨0, rfl⟩
theorem Drawn.cell {w wq : World} (h : Drawn w wq) (a : Addr) : wq.cell? a = w.cell? a := by obtain ⟨n, rfl⟩ := h; rfl
theorem Drawn.below {w wq : World} (h : Drawn w wq) {B : Nat} : Below B w wq := by obtain ⟨n, rfl⟩ := h; exact ⟨rfl, rfl, rfl, Nat.le_refl _, fun _ _ => rfl⟩
theorem Drawn.more {w wq : World} (h : Drawn w wq) (m : Nat) : Drawn w (wq.drewN m) := by
  obtain ⟨n, rfl⟩ := h
  exact ⟨n + m, by simp [World.drewN]; omega⟩
/-- After the messages ms have been held. -/
structure Held4 (w wq : World) (bj bb br : Nat) (ss : List ByteArray) (ms : List (Int × Bool)) : Prop where
  below : Below w.heap.size w wq
  lt : bj < wq.heap.size
  batch : BatchAt wq bb br ss
  jat : JAt wq bj bb (64 + foot ss) (keepAll (64 + foot ss) ms)

theorem Held4.step {w wq w2 : World} {bj bb br : Nat} {ss : List ByteArray} {zs : List Int} {k : Nat} (h : Held4 w wq bj bb br ss (reps (zs.take k))) (hw : w.heap.size ≤ bj) (hbb : bb < bj) (hbr : br < bj) (hk : k < zs.length)
    (g1 : JAt w2 bj bb (64 + foot ss) (trimL (64 + foot ss) (keepAll (64 + foot ss) (reps (zs.take k)) ++ [(zs[k], true)]))) (g2 : Below bj wq w2) (g3 : bj < w2.heap.size) :
    Held4 w w2 bj bb br ss (reps (zs.take (k + 1))) := by
  refine ⟨h.below.trans (g2.mono hw), g3, h.batch.below g2 hbb hbr, ?_⟩
  have e : reps (zs.take (k + 1)) = reps (zs.take k) ++ [(zs[k], true)] := by
    rw [List.take_succ_eq_append_getElem hk]; simp only [reps, List.map_append, List.map_cons, List.map_nil]
  rw [e, keepAll_snoc]
  exact g1

theorem rep_facts {w wq : World} {bj bb br : Nat} {ss : List ByteArray} {zs : List Int} (hf : foot ss ≤ 16777216) (h : Held4 w wq bj bb br ss (reps zs)) (c : Nat) (hc : c ≤ zs.length) (h1 : (c : Int) ≤ 67108864 / (64 + foot ss)) (h2 : c < zs.length → (c : Int) = 67108864 / (64 + foot ss)) :
    (∃ ao cap, wq.cell? ⟨bj, 8, none⟩ = some (.slice ao c cap) ∧ ∀ k, k < c → ∃ g off, ao = some ⟨g, off, none⟩ ∧ wq.cell? ⟨g, off + k * 2, none⟩ = some (.int .i64 (zs.getD (zs.length - c + k) 0)) ∧ wq.cell? ⟨g, off + k * 2 + 1, none⟩ = some (.iface (mt true) (mx bb true))) ∧
      wq.cell? ⟨bj, 9, none⟩ = some (.int .i64 ((c : Int) * (64 + foot ss))) ∧ (c : Int) * (64 + foot ss) ≤ 67108864 := by
  have n0 := foot_nonneg ss
  have hk := keepAll_reps (bw := 64 + foot ss) (by omega) zs c hc h1 h2
  have hJ := h.jat
  rw [hk] at hJ
  have hl : (zs.drop (zs.length - c)).length = c := by rw [List.length_drop]; omega
  obtain ⟨ao, cap, j1, j2, j3, _, _⟩ := hJ
  rw [reps_length, hl] at j1
  rw [sumW_reps, hl] at j3
  refine ⟨⟨ao, cap, j1, fun k hk => ?_⟩, j3, ?_⟩
  · rcases j2 with ⟨_, _, e⟩ | ⟨g, off, F, e, _, e1, e2, e3⟩
    · have := congrArg List.length e
      rw [reps_length, hl] at this
      simp at this; omega
    · rw [reps_length, hl] at e1
      have e4 := e3 k (by rw [reps_length, hl]; exact hk)
      refine ⟨g, off, e, ?_, ?_⟩
      · rw [e2.cell (by omega), e4.1]
        have : zs.length - c + k < zs.length := by omega
        simp [reps, this]
      · rw [e2.cell (by omega), e4.2]
        simp [reps]
  · have hq0 : 67108864 / (64 + foot ss) * (64 + foot ss) ≤ 67108864 := Int.ediv_mul_le _ (by omega)
    have := Int.mul_le_mul_of_nonneg_right h1 (show 0 ≤ 64 + foot ss by omega)
    omega

set_option maxRecDepth 100000 in
set_option maxHeartbeats 1600000 in
theorem walk3 (a0 a1 : Option Addr) (c0 c1 : Nat) (zs : List Int) (ss : List ByteArray) (w : World)
    (h0 : RowAt w a0 zs.length (fun i => .int .i64 (zs.getD i 0))) (h1 : RowAt w a1 ss.length (fun i => .string (ss.getD i ByteArray.empty))) :
    Calls Try.prog 3 #[.slice a0 zs.length c0, .slice a1 ss.length c1] w fun e w' => e = .returned (.bool true) ∧ Below w.heap.size w w' := by
  have hmk : ss.length ≤ 65536 → ∀ w, (Instr.makeSlice 25 (.int .i64 (ss.length : Int)) (.int .i64 (ss.length : Int))).run Try.prog w = .ok (.slice (some ⟨w.heap.size, 0, none⟩) ss.length ss.length) (w.alloc (.cells (reqCells ss.length) 28)) := run_make_reqs ss.length
  go_enter Try.func3, Try.ntmps3
  go_wp2_with fail
  refine (c5_any a0 a1 zs.length c0 ss.length c1 _ _ h1).mono ?_
  rintro e w' ⟨⟨b, rfl, hsh⟩, hw⟩
  obtain rfl : w = w' := hw.symm
  clear hw
  cases b with
  | false =>
    go_wp2_with fail
    go_ret
    exact ⟨rfl, Below.refl _ _⟩
  | true =>
    by_cases hz : 4096 < zs.length
    · go_wp2_with fail
      go_ret
      exact ⟨rfl, Below.refl _ _⟩
    by_cases hs : 65536 < ss.length
    · go_wp2_with fail
      go_ret
      exact ⟨rfl, Below.refl _ _⟩
    by_cases ht : 1048576 < 8 * zs.length + 16 * ss.length
    · go_wp2_with fail
      go_ret
      exact ⟨rfl, Below.refl _ _⟩
    have hz' : (zs.length : Int) ≤ 4096 := by omega
    have hs' : (ss.length : Int) ≤ 65536 := by omega
    have ht' : 8 * (zs.length : Int) + 16 * (ss.length : Int) ≤ 1048576 := by omega
    have hmk2 := hmk (by omega)
    have hsh' := hsh rfl
    clear hsh
    clear hz hs ht hmk
    go_wp2_with fail
    go_loop [5, 6] (fun t i => ∃ k : Nat, k ≤ ss.length ∧ i = .int .i64 k ∧ t = .int .i64 (8 * (zs.length : Int) + 16 * (ss.length : Int) + lenS (ss.take k)) ∧ 8 * (zs.length : Int) + 16 * (ss.length : Int) + lenS (ss.take k) ≤ 1048576) (fun _ i => ss.length - (intOf i).toNat)
    case atStart => exact ⟨0, Nat.zero_le _, rfl, by simp [lenS], by simpa [lenS] using ht'⟩
    case round =>
      obtain ⟨k, hk, rfl, rfl, hle⟩ := hrel
      have n0 := lenS_nonneg (ss.take k)
      by_cases hlt : k < ss.length
      · obtain ⟨b, off, rfl, hc⟩ := h1 k hlt
        have n1 : Hid _ := lenS_take_succ ss k hlt
        have n2 : ss[k].size ≤ 1048576 := by have := hsh' k hlt; simpa [hlt] using this
        clear h1 hmk2 hsh'
        go_wp2_with fail
        · go_ret
          exact ⟨rfl, Below.refl _ _⟩
        · go_round
          case rel => exact ⟨k + 1, by omega, by go_num, by rw [n1.out]; go_num, by rw [n1.out]; omega⟩
          case measure => simp [intOf]; omega
      · have hke : k = ss.length := by omega
        subst hke
        rw [List.take_length] at hle
        have hf : foot ss ≤ 16777216 := by rw [foot_lenS]; omega
        have hf0 := foot_nonneg ss
        go_wp2_with fail
        clear hmk2
        go_loopw [8] (fun i wr => ∃ k : Nat, k ≤ ss.length ∧ i = .int .i64 k ∧ Fill w wr ss k) (fun i _ => ss.length - (intOf i).toNat)
        case atStart => exact ⟨0, Nat.zero_le _, rfl, fill_start w ss⟩
        case round =>
          obtain ⟨wf, hwf⟩ : ∃ wf, wf = wr := ⟨_, rfl⟩
          subst hwf
          obtain ⟨k, hk, rfl, hF⟩ := hrel
          by_cases hlt : k < ss.length
          · obtain ⟨b, off, rfl, hc⟩ := h1 k hlt
            have hbl := World.block_lt_of_cell? w _ hc
            rw [← hF.below.cell (p := ⟨b, off + k, none⟩) hbl] at hc
            obtain ⟨hc4, hf4⟩ := hF.cell hlt
            clear h1 hsh'
            go_wp2_with fail
            go_roundw
            case rel => exact ⟨k + 1, by omega, by go_num, fill_step hF hlt⟩
            case measure => simp [intOf]; omega
          · have hke : k = ss.length := by omega
            subst hke
            go_wp2_with fail
            refine (c6_any 1 1 1 _ _ _ _).mono ?_
            rintro e w1 ⟨rfl, rfl⟩
            go_wp2_with fail
            have hrs := hF.size
            have hrs1 : w.heap.size < wf.heap.size := by omega
            have hrs2 : Hid (wf.heap.size = w.heap.size + 1) := hrs
            clear hrs
            go_loop [10, 11] (fun t i => ∃ k : Nat, k ≤ ss.length ∧ i = .int .i64 k ∧ t = .int .i64 (64 + foot (ss.take k))) (fun _ i => ss.length - (intOf i).toNat)
            case atStart => exact ⟨0, Nat.zero_le _, rfl, rfl⟩
            case round =>
              obtain ⟨k, hk, rfl, rfl⟩ := hrel
              have n0 := foot_nonneg (ss.take k)
              have n1 := foot_take_le ss k
              by_cases hlt : k < ss.length
              · obtain ⟨b, off, rfl, hc⟩ := h1 k hlt
                have hbl0 := World.block_lt_of_cell? w _ hc
                rw [← hF.below.cell (p := ⟨b, off + k, none⟩) hbl0] at hc
                have hbl : b < wf.heap.size := by simp only at hbl0; omega
                have n3 : Hid _ := foot_take_succ ss k hlt
                have n2 : ss[k].size ≤ 1048576 := by have := hsh' k hlt; simpa [hlt] using this
                clear h1 hsh'
                go_wp2_with fail
                go_round
                case rel => exact ⟨k + 1, by omega, by go_num, by rw [n3.out]; go_num⟩
                case measure => simp [intOf]; omega
              · have hke : k = ss.length := by omega
                subst hke
                rw [List.take_length] at n0 n1 ⊢
                clear n1
                go_wp2_with fail
                refine (c7_any _).mono ?_
                rintro e w1 ⟨rfl, rfl⟩
                obtain ⟨hb2, hsz2, hB2, hJ2⟩ := jat_start hF 1 1 1
                have hst : Held4 w _ (wf.heap.size + 1) wf.heap.size w.heap.size ss (reps (zs.take 0)) := ⟨hb2, by omega, hB2, hJ2 _⟩
                clear hb2 hsz2 hB2 hJ2
                go_wp2_with fail
                go_loopw [14] (fun i wq => ∃ k : Nat, k ≤ zs.length ∧ i = .int .i64 k ∧ Held4 w wq (wf.heap.size + 1) wf.heap.size w.heap.size ss (reps (zs.take k))) (fun i _ => zs.length - (intOf i).toNat)
                case atStart => exact ⟨0, Nat.zero_le _, rfl, hst⟩
                case round =>
                  obtain ⟨wh, hwh⟩ : ∃ wh, wh = wr := ⟨_, rfl⟩
                  subst hwh
                  obtain ⟨k, hk, rfl, hQ⟩ := hrel
                  by_cases hlt : k < zs.length
                  · obtain ⟨b, off, rfl, hc⟩ := h0 k hlt
                    have hbl := World.block_lt_of_cell? w _ hc
                    rw [← hQ.below.cell (p := ⟨b, off + k, none⟩) hbl] at hc
                    have hlen : (keepAll (64 + foot ss) (reps (zs.take k))).length ≤ 4096 := by
                      have := keepAll_length (bw := 64 + foot ss) (by omega) (reps (zs.take k))
                      rw [reps_length] at this; simp at this; omega
                    clear h0 h1 hsh'
                    go_wp2_with fail
                    refine (c8_any ss _ _ _ _ _ (by omega) hf hlen _ hQ.lt (by omega) (by omega) hQ.batch hQ.jat).mono ?_
                    rintro e w2 ⟨rfl, g1, g2, g3⟩
                    go_wp2_with fail
                    go_roundw
                    case rel => exact ⟨k + 1, by omega, by go_num, hQ.step (by omega) (by omega) (by omega) hlt g1 g2 g3⟩
                    case measure => simp [intOf]; omega
                  · have hke : k = zs.length := by omega
                    subst hke
                    rw [List.take_length] at hQ
                    clear h1 hsh' hst
                    by_cases hq : 67108864 / (64 + foot ss) < (zs.length : Int)
                    · obtain ⟨c, hqc⟩ : ∃ c : Nat, 67108864 / (64 + foot ss) = (c : Int) := ⟨(67108864 / (64 + foot ss)).toNat, by
                        have : 0 ≤ 67108864 / (64 + foot ss) := Int.ediv_nonneg (by omega) (by omega)
                        omega⟩
                      obtain ⟨⟨ao, cap, g1, g4⟩, g2, g3⟩ := rep_facts hf hQ c (by omega) (by omega) (fun _ => hqc.symm)
                      have hc1 : 1 ≤ c := by
                        have : 1 ≤ 67108864 / (64 + foot ss) := Int.le_ediv_of_mul_le (by omega) (by omega)
                        omega
                      have hcn : (c : Int) < zs.length := by omega
                      have g5 : 0 ≤ (c : Int) * (64 + foot ss) := Int.mul_nonneg (by omega) (by omega)
                      clear hq
                      go_wp2_with fail
                      refine (c9_any _ _ _ _ _ g1).mono ?_
                      rintro e w2 ⟨rfl, hw2⟩
                      obtain rfl := hw2.symm
                      go_wp2_with fail
                      refine (c10_any _ _ _ g2).mono ?_
                      rintro e w2 ⟨rfl, hw2⟩
                      obtain rfl := hw2.symm
                      go_wp2_with fail
                      go_loopw [16] (fun i wq => ∃ k : Nat, k ≤ c ∧ i = .int .i64 k ∧ Drawn wh wq) (fun i _ => c - (intOf i).toNat)
                      case atStart => exact ⟨0, Nat.zero_le _, rfl, .refl _⟩
                      case round =>
                        obtain ⟨wq, hwq⟩ : ∃ wq, wq = wr := ⟨_, rfl⟩
                        subst hwq
                        obtain ⟨k, hk, rfl, hD⟩ := hrel
                        by_cases hlt : k < c
                        · obtain ⟨g, off, rfl, d1, d2⟩ := g4 k hlt
                          obtain ⟨b, o, rfl, hc⟩ := h0 (zs.length - c + k) (by omega)
                          have hbl := World.block_lt_of_cell? w _ hc
                          rw [← hQ.below.cell (p := ⟨b, o + (zs.length - c + k), none⟩) hbl, ← hD.cell] at hc
                          rw [← hD.cell] at d1 d2
                          have g1' := g1
                          rw [← hD.cell] at g1'
                          clear h0 g4
                          have i1 : (0 : Int) ≤ (zs.length : Int) - c + k := by omega
                          have i2 : (zs.length : Int) - c + k < zs.length := by omega
                          have i3 : ((zs.length : Int) - c + k).toNat = zs.length - c + k := by omega
                          have C11 : ∀ m, Calls Try.prog 11 #[.pointer (some ⟨wf.heap.size + 1, 0, none⟩), .int .i64 (k : Int)] (wq.drewN m) fun e w' => e = .returned (.int .i64 (zs.getD (zs.length - c + k) 0)) ∧ w' = wq.drewN m := fun m => c11_any _ _ _ _ _ _ _ _ (by simpa using g1') hlt (by simpa using d1)
                          have H11 : Hid _ := C11
                          clear C11
                          go_wp2_with fail
                          go_quiet ((go_at_call 11; exact Calls.quiet_of_same (H11.out _)))
                          go_wp2_with fail
                          refine (c12_any _ wf.heap.size _ _ _ _ _ true _ (by simpa using g1') hlt (by simpa using d2)).mono ?_
                          rintro e w2 ⟨rfl, hw2⟩
                          obtain rfl := hw2.symm
                          have hbp : bp wf.heap.size true = some ⟨wf.heap.size, 0, none⟩ := rfl
                          have hnp := neq_ptr
                          go_wp2_with fail
                          go_roundw
                          case rel => exact ⟨k + 1, by omega, by go_num, hD.more _⟩
                          case measure => simp [intOf]; omega
                        · go_wp2_with fail
                          go_ret
                          exact ⟨rfl, hQ.below.trans hD.below⟩
                    · have hq' : (zs.length : Int) ≤ 67108864 / (64 + foot ss) := by omega
                      obtain ⟨⟨ao, cap, g1, g4⟩, g2, g3⟩ := rep_facts hf hQ zs.length (Nat.le_refl _) hq' (fun h => by omega)
                      have g5 : 0 ≤ (zs.length : Int) * (64 + foot ss) := Int.mul_nonneg (by omega) (by omega)
                      clear hq
                      by_cases hn1 : 1 ≤ zs.length
                      all_goals
                        go_wp2_with fail
                        refine (c9_any _ _ _ _ _ g1).mono ?_
                        rintro e w2 ⟨rfl, hw2⟩
                        obtain rfl := hw2.symm
                        go_wp2_with fail
                        refine (c10_any _ _ _ g2).mono ?_
                        rintro e w2 ⟨rfl, hw2⟩
                        obtain rfl := hw2.symm
                        go_wp2_with fail
                        go_loopw [16] (fun i wq => ∃ k : Nat, k ≤ zs.length ∧ i = .int .i64 k ∧ Drawn wh wq) (fun i _ => zs.length - (intOf i).toNat)
                        case atStart => exact ⟨0, Nat.zero_le _, rfl, .refl _⟩
                        case round =>
                          obtain ⟨wq, hwq⟩ : ∃ wq, wq = wr := ⟨_, rfl⟩
                          subst hwq
                          obtain ⟨k, hk, rfl, hD⟩ := hrel
                          by_cases hlt : k < zs.length
                          · obtain ⟨g, off, rfl, d1, d2⟩ := g4 k hlt
                            rw [Nat.sub_self, Nat.zero_add] at d1
                            obtain ⟨b, o, rfl, hc⟩ := h0 k hlt
                            have hbl := World.block_lt_of_cell? w _ hc
                            rw [← hQ.below.cell (p := ⟨b, o + k, none⟩) hbl, ← hD.cell] at hc
                            rw [← hD.cell] at d1 d2
                            have g1' := g1
                            rw [← hD.cell] at g1'
                            clear h0 g4
                            have i2 : (k : Int) < zs.length := by omega
                            have C11 : ∀ m, Calls Try.prog 11 #[.pointer (some ⟨wf.heap.size + 1, 0, none⟩), .int .i64 (k : Int)] (wq.drewN m) fun e w' => e = .returned (.int .i64 (zs.getD k 0)) ∧ w' = wq.drewN m := fun m => c11_any _ _ _ _ _ _ _ _ (by simpa using g1') hlt (by simpa using d1)
                            have H11 : Hid _ := C11
                            clear C11
                            go_wp2_with fail
                            go_quiet ((go_at_call 11; exact Calls.quiet_of_same (H11.out _)))
                            go_wp2_with fail
                            refine (c12_any _ wf.heap.size _ _ _ _ _ true _ (by simpa using g1') hlt (by simpa using d2)).mono ?_
                            rintro e w2 ⟨rfl, hw2⟩
                            obtain rfl := hw2.symm
                            have hbp : bp wf.heap.size true = some ⟨wf.heap.size, 0, none⟩ := rfl
                            have hnp := neq_ptr
                            go_wp2_with fail
                            go_roundw
                            case rel => exact ⟨k + 1, by omega, by go_num, hD.more _⟩
                            case measure => simp [intOf]; omega
                          · go_wp2_with fail
                            go_ret
                            exact ⟨rfl, hQ.below.trans hD.below⟩
end Go.Proofs.Qxb6616082a
