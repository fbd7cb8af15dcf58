/-
  The walk of FnHoldMixedKeepsNewestSuffix, where the two lengths are one.
-/
import Derived.Test.Qxb6616082aMix0
import Derived.Deep.CutBlock
namespace Go.Proofs.Qxb6616082a
open Go.RowKit

set_option maxRecDepth 100000 in
set_option maxHeartbeats 1600000 in
theorem walk4_eq (a0 a1 a2 : Option Addr) (c0 c1 c2 : Nat) (ms : List (Int × Bool)) (ss : List ByteArray) (w : World)
    (h0 : RowAt w a0 ms.length (fun i => .int .i64 (ms.getD i (0, false)).1)) (h1 : RowAt w a1 ms.length (fun i => .bool (ms.getD i (0, false)).2))
    (h2 : RowAt w a2 ss.length (fun i => .string (ss.getD i ByteArray.empty))) :
    Calls Try.prog 4 #[.slice a0 ms.length c0, .slice a1 ms.length c1, .slice a2 ss.length c2] w fun e w' => e = .returned (.bool true) ∧ Below w.heap.size w w' := by
  have hmk : ss.length ≤ 65536 → ∀ w, (Instr.makeSlice 25 (.int .i64 (ss.length : Int)) (.int .i64 (ss.length : Int))).run Try.prog w = .ok (.slice (some ⟨w.heap.size, 0, none⟩) ss.length ss.length) (w.alloc (.cells (reqCells ss.length) 28)) := run_make_reqs ss.length
  go_enter Try.func4, Try.ntmps4
  go_wp2_with fail
  refine (c13_any a0 a1 a2 ms.length c0 ms.length c1 ss.length c2 _ _ h2).mono ?_
  rintro e w' ⟨⟨b, rfl, hsh⟩, hw⟩
  obtain rfl : w = w' := hw.symm
  clear hw
  cases b with
  | false =>
    go_wp2_with fail
    go_ret
    exact ⟨rfl, Below.refl _ _⟩
  | true =>
    by_cases hz : 4096 < ms.length
    · go_wp2_with fail
      go_ret
      exact ⟨rfl, Below.refl _ _⟩
    by_cases hs : 65536 < ss.length
    · go_wp2_with fail
      go_ret
      exact ⟨rfl, Below.refl _ _⟩
    by_cases ht : 1048576 < 8 * ms.length + ms.length + 16 * ss.length
    · go_wp2_with fail
      go_ret
      exact ⟨rfl, Below.refl _ _⟩
    have hz' : (ms.length : Int) ≤ 4096 := by omega
    have hs' : (ss.length : Int) ≤ 65536 := by omega
    have ht' : 8 * (ms.length : Int) + ms.length + 16 * (ss.length : Int) ≤ 1048576 := by omega
    have hmk2 := hmk (by omega)
    have hsh' := hsh rfl
    clear hsh hz hs ht hmk
    go_wp2_with fail
    go_loop [7, 8] (fun t i => ∃ k : Nat, k ≤ ss.length ∧ i = .int .i64 k ∧ t = .int .i64 (8 * (ms.length : Int) + ms.length + 16 * (ss.length : Int) + lenS (ss.take k)) ∧ 8 * (ms.length : Int) + ms.length + 16 * (ss.length : Int) + lenS (ss.take k) ≤ 1048576) (fun _ i => ss.length - (intOf i).toNat)
    case atStart => exact ⟨0, Nat.zero_le _, rfl, by simp [lenS], by simpa [lenS] using ht'⟩
    case round =>
      obtain ⟨k, hk, rfl, rfl, hle⟩ := hrel
      have n0 := lenS_nonneg (ss.take k)
      by_cases hlt : k < ss.length
      · obtain ⟨b, off, rfl, hc⟩ := h2 k hlt
        have n1 : Hid _ := lenS_take_succ ss k hlt
        have n2 : ss[k].size ≤ 1048576 := by have := hsh' k hlt; simpa [hlt] using this
        clear h2 hsh' hmk2
        go_wp2_with fail
        · go_ret
          exact ⟨rfl, Below.refl _ _⟩
        · go_round
          case rel => exact ⟨k + 1, by omega, by go_num, by rw [n1.out]; go_num, by rw [n1.out]; omega⟩
          case measure => simp [intOf]; omega
      · have hke : k = ss.length := by omega
        subst hke
        rw [List.take_length] at hle
        have hf : foot ss ≤ 16777216 := by rw [foot_lenS]; omega
        have hf0 := foot_nonneg ss
        go_wp2_with fail
        clear hmk2
        go_loopw [10] (fun i wr => ∃ k : Nat, k ≤ ss.length ∧ i = .int .i64 k ∧ Fill w wr ss k) (fun i _ => ss.length - (intOf i).toNat)
        case atStart => exact ⟨0, Nat.zero_le _, rfl, fill_start w ss⟩
        case round =>
          obtain ⟨wf, hwf⟩ : ∃ wf, wf = wr := ⟨_, rfl⟩
          subst hwf
          obtain ⟨k, hk, rfl, hF⟩ := hrel
          by_cases hlt : k < ss.length
          · obtain ⟨b, off, rfl, hc⟩ := h2 k hlt
            have hbl := World.block_lt_of_cell? w _ hc
            rw [← hF.below.cell (p := ⟨b, off + k, none⟩) hbl] at hc
            obtain ⟨hc4, hf4⟩ := hF.cell hlt
            clear h2 hsh'
            go_wp2_with fail
            go_roundw
            case rel => exact ⟨k + 1, by omega, by go_num, fill_step hF hlt⟩
            case measure => simp [intOf]; omega
          · have hke : k = ss.length := by omega
            subst hke
            go_wp2_with fail
            refine (c6_any 2 3 4 _ _ _ _).mono ?_
            rintro e w1 ⟨rfl, rfl⟩
            go_wp2_with fail
            have hrs := hF.size
            have hrs1 : w.heap.size < wf.heap.size := by omega
            have hrs2 : Hid (wf.heap.size = w.heap.size + 1) := hrs
            clear hrs
            go_loop [12, 13] (fun t i => ∃ k : Nat, k ≤ ss.length ∧ i = .int .i64 k ∧ t = .int .i64 (64 + foot (ss.take k))) (fun _ i => ss.length - (intOf i).toNat)
            case atStart => exact ⟨0, Nat.zero_le _, rfl, rfl⟩
            case round =>
              obtain ⟨k, hk, rfl, rfl⟩ := hrel
              have n0 := foot_nonneg (ss.take k)
              have n1 := foot_take_le ss k
              by_cases hlt : k < ss.length
              · obtain ⟨b, off, rfl, hc⟩ := h2 k hlt
                have hbl0 := World.block_lt_of_cell? w _ hc
                rw [← hF.below.cell (p := ⟨b, off + k, none⟩) hbl0] at hc
                have hbl : b < wf.heap.size := by simp only at hbl0; omega
                have n3 : Hid _ := foot_take_succ ss k hlt
                have n2 : ss[k].size ≤ 1048576 := by have := hsh' k hlt; simpa [hlt] using this
                clear h2 hsh'
                go_wp2_with fail
                go_round
                case rel => exact ⟨k + 1, by omega, by go_num, by rw [n3.out]; go_num⟩
                case measure => simp [intOf]; omega
              · have hke : k = ss.length := by omega
                subst hke
                rw [List.take_length] at n0 n1 ⊢
                clear n1
                go_wp2_with fail
                refine (c7_any _).mono ?_
                rintro e w1 ⟨rfl, rfl⟩
                obtain ⟨hb2, hsz2, hB2, hJ2⟩ := jat_start hF 2 3 4
                have hst : Held4 w _ (wf.heap.size + 1) wf.heap.size w.heap.size ss (ms.take 0) := ⟨hb2, by omega, hB2, hJ2 _⟩
                clear hb2 hsz2 hB2 hJ2 h2 hsh'
                go_wp2_with fail
                go_loopw [16] (fun i wq => ∃ k : Nat, k ≤ ms.length ∧ i = .int .i64 k ∧ Held4 w wq (wf.heap.size + 1) wf.heap.size w.heap.size ss (ms.take k)) (fun i _ => ms.length - (intOf i).toNat)
                case atStart => exact ⟨0, Nat.zero_le _, rfl, hst⟩
                case round =>
                  obtain ⟨wh, hwh⟩ : ∃ wh, wh = wr := ⟨_, rfl⟩
                  subst hwh
                  obtain ⟨k, hk, rfl, hQ⟩ := hrel
                  clear hst
                  by_cases hlt : k < ms.length
                  · obtain ⟨b, off, rfl, hc⟩ := h0 k hlt
                    have hbl := World.block_lt_of_cell? w _ hc
                    rw [← hQ.below.cell (p := ⟨b, off + k, none⟩) hbl] at hc
                    obtain ⟨b', off', rfl, hc'⟩ := h1 k hlt
                    have hbl' := World.block_lt_of_cell? w _ hc'
                    rw [← hQ.below.cell (p := ⟨b', off' + k, none⟩) hbl'] at hc'
                    have hlen : (keepAll (64 + foot ss) (ms.take k)).length ≤ 4096 := by
                      have := keepAll_length (bw := 64 + foot ss) (by omega) (ms.take k)
                      simp at this; omega
                    clear h0 h1
                    by_cases hm : ms[k].2 = true
                    · go_wp2_with fail
                      refine (c8_any ss _ _ _ _ _ (by omega) hf hlen _ hQ.lt (by omega) (by omega) hQ.batch hQ.jat).mono ?_
                      rintro e w2 ⟨rfl, g1, g2, g3⟩
                      have G := hQ.stepM (by omega) (by omega) (by omega) hlt rfl hm g1 g2 g3
                      clear g1
                      go_wp2_with fail
                      go_roundw
                      case rel => exact ⟨k + 1, by omega, by go_num, G⟩
                      case measure => simp [intOf]; omega
                    · have hm' : ms[k].2 = false := by simpa using hm
                      clear hm
                      go_wp2_with fail
                      refine (c14_any ss _ wf.heap.size w.heap.size _ _ (by omega) hf hlen _ hQ.lt (by omega) (by omega) hQ.batch hQ.jat).mono ?_
                      rintro e w2 ⟨rfl, g1, g2, g3⟩
                      have G := hQ.stepM (by omega) (by omega) (by omega) hlt rfl hm' g1 g2 g3
                      clear g1
                      go_wp2_with fail
                      go_roundw
                      case rel => exact ⟨k + 1, by omega, by go_num, G⟩
                      case measure => simp [intOf]; omega
                  · have hke : k = ms.length := by omega
                    subst hke
                    rw [List.take_length] at hQ
                    go_upto_block 8 with fail
                    go_cut [17, 18, 19] (fun a b _ wc => ∃ st : Nat, a = .int .i64 st ∧ b = .int .i64 (sumW (64 + foot ss) (ms.drop st)) ∧ Best (64 + foot ss) ms st ∧ wh = wc)
                    case first =>
                      go_wp2_with fail
                      go_loop [17, 18] (fun a b => ∃ st : Nat, st ≤ ms.length ∧ a = .int .i64 st ∧ b = .int .i64 (sumW (64 + foot ss) (ms.drop st)) ∧ sumW (64 + foot ss) (ms.drop st) ≤ 67108864) (fun a _ => (intOf a).toNat)
                      case atStart => exact ⟨ms.length, Nat.le_refl _, rfl, by simp [sumW], by simp [sumW]⟩
                      case round =>
                        obtain ⟨st, hst, rfl, rfl, hle2⟩ := hrel
                        have p0 := sumW_nonneg (bw := 64 + foot ss) (by omega) (ms.drop st)
                        rcases best_or (64 + foot ss) ms st hst hle2 with hB | ⟨t, rfl, hC⟩
                        rotate_left
                        · obtain ⟨b', off', rfl, hc'⟩ := h1 t (by omega)
                          have hbl' := World.block_lt_of_cell? w _ hc'
                          rw [← hQ.below.cell (p := ⟨b', off' + t, none⟩) hbl'] at hc'
                          have e1 : Hid _ := sumW_drop_pred (64 + foot ss) ms t (by omega)
                          have q0 := wt_bd ss ms[t].2 hf
                          have q1 : sumW (64 + foot ss) (ms.drop (t + 1)) + wt (64 + foot ss) ms[t].2 ≤ 67108864 := by
                            rcases hC with hC | hC
                            · rw [List.drop_of_length_le (by omega)]; simp [sumW]; omega
                            · rw [e1.out] at hC; exact hC
                          have htl : t < ms.length := by omega
                          have i1 : (0 : Int) ≤ t := by omega
                          have i2 : (t : Int) < ms.length := by omega
                          clear h0 h1 hC
                          by_cases hm : ms[t].2 = true
                          · rw [hm] at q1 q0
                            have q2 : sumW (64 + foot ss) (ms.drop (t + 1)) + (64 + foot ss) ≤ 67108864 := q1
                            have e2 : Hid (sumW (64 + foot ss) (ms.drop t) = sumW (64 + foot ss) (ms.drop (t + 1)) + (64 + foot ss)) := by rw [e1.out, hm]; rfl
                            clear q1 e1
                            by_cases hl : t + 1 < ms.length
                            all_goals
                              go_wp2_with fail
                              go_round
                              case rel => exact ⟨t, by omega, by go_num, by rw [e2.out], by rw [e2.out]; omega⟩
                              case measure => simp [intOf]
                          · have hm' : ms[t].2 = false := by simpa using hm
                            clear hm
                            rw [hm'] at q1 q0
                            have q2 : sumW (64 + foot ss) (ms.drop (t + 1)) + 64 ≤ 67108864 := q1
                            have e2 : Hid (sumW (64 + foot ss) (ms.drop t) = sumW (64 + foot ss) (ms.drop (t + 1)) + 64) := by rw [e1.out, hm']; rfl
                            clear q1 e1
                            by_cases hl : t + 1 < ms.length
                            all_goals
                              go_wp2_with fail
                              go_round
                              case rel => exact ⟨t, by omega, by go_num, by rw [e2.out], by rw [e2.out]; omega⟩
                              case measure => simp [intOf]
                        cases st with
                        | zero =>
                          go_wp2_with fail
                          go_meet
                          exact ⟨0, rfl, rfl, hB, rfl⟩
                        | succ t =>
                          obtain ⟨htl, hl⟩ := best_succ (by omega) hB
                          obtain ⟨b', off', rfl, hc'⟩ := h1 t (by omega)
                          have hbl' := World.block_lt_of_cell? w _ hc'
                          rw [← hQ.below.cell (p := ⟨b', off' + t, none⟩) hbl'] at hc'
                          have e1 : Hid _ := sumW_drop_pred (64 + foot ss) ms t (by omega)
                          have q0 := wt_bd ss ms[t].2 hf
                          rw [e1.out] at htl
                          have i1 : (0 : Int) ≤ t := by omega
                          have i2 : (t : Int) < ms.length := by omega
                          have i3 : t < ms.length := by omega
                          clear h0 h1
                          by_cases hm : ms[t].2 = true
                          · rw [hm] at htl q0
                            have q2 : 67108864 < sumW (64 + foot ss) (ms.drop (t + 1)) + (64 + foot ss) := htl
                            clear htl
                            go_wp2_with fail
                            go_meet
                            exact ⟨t + 1, by go_num, rfl, hB, rfl⟩
                          · have hm' : ms[t].2 = false := by simpa using hm
                            clear hm
                            rw [hm'] at htl q0
                            have q2 : 67108864 < sumW (64 + foot ss) (ms.drop (t + 1)) + 64 := htl
                            clear htl
                            go_wp2_with fail
                            go_meet
                            exact ⟨t + 1, by go_num, rfl, hB, rfl⟩
                    case rest =>
                      obtain ⟨st, rfl, rfl, hB, rfl⟩ := hcut
                      have hst : st ≤ ms.length := hB.1
                      have hle2 := hB.2.1
                      have p0 := sumW_nonneg (bw := 64 + foot ss) (by omega) (ms.drop st)
                      obtain ⟨c, hcs⟩ : ∃ c : Nat, c + st = ms.length := ⟨ms.length - st, by omega⟩
                      obtain ⟨⟨ao, cap, g1, g4⟩, g2⟩ := mix_facts hf hQ st c hB hcs
                      have hcs' : (ms.length : Int) - (st : Int) = (c : Int) := by omega
                      have Hcs : Hid (c + st = ms.length) := hcs
                      clear hcs
                      have hcn : c ≤ ms.length := by have := Hcs.out; omega
                      go_wp2_with fail
                      refine (c9_any _ _ _ _ _ g1).mono ?_
                      rintro e w2 ⟨rfl, hw2⟩
                      obtain rfl := hw2.symm
                      go_wp2_with fail
                      refine (c10_any _ _ _ g2).mono ?_
                      rintro e w2 ⟨rfl, hw2⟩
                      obtain rfl := hw2.symm
                      go_wp2_with fail
                      clear g2
                      go_loopw [21] (fun i wq => ∃ k : Nat, k ≤ c ∧ i = .int .i64 k ∧ Below wh.heap.size wh wq) (fun i _ => c - (intOf i).toNat)
                      case atStart => exact ⟨0, Nat.zero_le _, rfl, Below.refl _ _⟩
                      case round =>
                        obtain ⟨wq, hwq⟩ : ∃ wq, wq = wr := ⟨_, rfl⟩
                        subst hwq
                        obtain ⟨k, hk, rfl, hD⟩ := hrel
                        by_cases hlt : k < c
                        · obtain ⟨g, off, rfl, d1, d2⟩ := g4 k hlt
                          have hsk : st + k < ms.length := by have := Hcs.out; omega
                          obtain ⟨b, o, rfl, hc⟩ := h0 (st + k) hsk
                          obtain ⟨b', o', rfl, hc'⟩ := h1 (st + k) hsk
                          have hbl := World.block_lt_of_cell? w _ hc
                          have hbl' := World.block_lt_of_cell? w _ hc'
                          rw [← hQ.below.cell (p := ⟨b, o + (st + k), none⟩) hbl] at hc
                          rw [← hQ.below.cell (p := ⟨b', o' + (st + k), none⟩) hbl'] at hc'
                          rw [← hD.cell (p := ⟨b, o + (st + k), none⟩) (World.block_lt_of_cell? _ _ hc)] at hc
                          rw [← hD.cell (p := ⟨b', o' + (st + k), none⟩) (World.block_lt_of_cell? _ _ hc')] at hc'
                          have hgl := World.block_lt_of_cell? _ _ d1
                          rw [← hD.cell (p := ⟨g, off + k * 2, none⟩) hgl] at d1
                          rw [← hD.cell (p := ⟨g, off + k * 2 + 1, none⟩) hgl] at d2
                          have g1' := g1
                          rw [← hD.cell (p := ⟨wf.heap.size + 1, 8, none⟩) hQ.lt] at g1'
                          have hBq : BatchAt wq wf.heap.size w.heap.size ss := hQ.batch.below hD (by have := hQ.lt; omega) (by have := hQ.lt; omega)
                          have hbr2 : w.heap.size < wq.heap.size := by have := hQ.lt; have := hD.size; omega
                          clear h0 h1 g4
                          dsimp only at hc hc'
                          have i1 : (0 : Int) ≤ (st : Int) + k := by omega
                          have i2 : (st : Int) + k < ms.length := by omega
                          have i3 : ((st : Int) + k).toNat = st + k := by omega
                          have C11 : ∀ m, Calls Try.prog 11 #[.pointer (some ⟨wf.heap.size + 1, 0, none⟩), .int .i64 (k : Int)] (wq.drewN m) fun e w' => e = .returned (.int .i64 (ms.getD (st + k) (0, false)).1) ∧ w' = wq.drewN m := fun m => c11_any _ _ _ _ _ _ _ _ (by simpa using g1') hlt (by simpa using d1)
                          have H11 : Hid _ := C11
                          clear C11 hcs'
                          by_cases hm : ms[st + k].2 = true
                          · have hm2 : (ms.getD (st + k) (0, false)).2 = true := by simpa [hsk] using hm
                            rw [hm2] at d2 hc'
                            clear hm hm2
                            go_wp2_with fail
                            go_quiet ((go_at_call 11; exact Calls.quiet_of_same (H11.out _)))
                            go_wp2_with fail
                            refine (c12_any _ wf.heap.size _ _ _ _ _ true _ (by simpa using g1') hlt (by simpa using d2)).mono ?_
                            rintro e w2 ⟨rfl, hw2⟩
                            obtain rfl := hw2.symm
                            have hnp := neq_ptr
                            have hbp : bp wf.heap.size true = some ⟨wf.heap.size, 0, none⟩ := rfl
                            go_wp2_with fail
                            refine (c15_any ss _ wf.heap.size w.heap.size _ _ _ _ _ true (by omega) hf (wq.drewN nq) hbr2 (hBq.drawn nq) (by simpa using g1') hlt (by simpa using d2)).mono ?_
                            rintro e w2 ⟨rfl, hw2⟩
                            have hwt : wt (64 + foot ss) true = 64 + foot ss := rfl
                            go_wp2_with fail
                            go_roundw
                            case rel => exact ⟨k + 1, by omega, by go_num, below_more hD hw2⟩
                            case measure => simp [intOf]; omega

                          · have hm' : ms[st + k].2 = false := by simpa using hm
                            have hm2 : (ms.getD (st + k) (0, false)).2 = false := by simpa [hsk] using hm'
                            rw [hm2] at d2 hc'
                            clear hm hm' hm2
                            go_wp2_with fail
                            go_quiet ((go_at_call 11; exact Calls.quiet_of_same (H11.out _)))
                            go_wp2_with fail
                            refine (c12_any _ wf.heap.size _ _ _ _ _ false _ (by simpa using g1') hlt (by simpa using d2)).mono ?_
                            rintro e w2 ⟨rfl, hw2⟩
                            obtain rfl := hw2.symm
                            have hnp := neq_ptr
                            have hbp : bp wf.heap.size false = none := rfl
                            go_wp2_with fail
                            refine (c15_any ss _ wf.heap.size w.heap.size _ _ _ _ _ false (by omega) hf (wq.drewN nq) hbr2 (hBq.drawn nq) (by simpa using g1') hlt (by simpa using d2)).mono ?_
                            rintro e w2 ⟨rfl, hw2⟩
                            have hwt : wt (64 + foot ss) false = 64 := rfl
                            go_wp2_with fail
                            go_roundw
                            case rel => exact ⟨k + 1, by omega, by go_num, below_more hD hw2⟩
                            case measure => simp [intOf]; omega

                        · go_wp2_with fail
                          go_ret
                          exact ⟨rfl, hQ.below.trans (hD.mono (by have := hQ.lt; omega))⟩
end Go.Proofs.Qxb6616082a
