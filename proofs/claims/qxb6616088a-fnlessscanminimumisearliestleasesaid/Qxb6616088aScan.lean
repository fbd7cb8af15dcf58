/-
  THE STATEMENT 'Rows.FnLessScanMinimumIsEarliestLeaseSaid': the walk of the law.
-/
import Derived.Test.Qxb6616088aQueue
namespace Go.Proofs.Qxb6616088a
open Go.RowKit

theorem lessB_false {e1 b1 e2 b2 : Int} : lessB e1 b1 e2 b2 = false ↔ e2 < e1 ∨ e2 = e1 ∧ b2 ≤ b1 := by
  simp only [lessB, decide_eq_false_iff_not]
  omega
theorem lessB_true {e1 b1 e2 b2 : Int} : lessB e1 b1 e2 b2 = true ↔ e1 < e2 ∨ e1 = e2 ∧ b1 < b2 := by
  simp only [lessB, decide_eq_true_eq]

/-- m is the place that the scan keeps among the first j. -/
structure Kept (E B : Nat → Int) (m j : Nat) : Prop where
  lt : m < j
  least : ∀ i, i < j → E m < E i ∨ E m = E i ∧ B m ≤ B i
theorem kept_one (E B : Nat → Int) : Kept E B 0 1 := by
  refine ⟨by omega, fun i hi => ?_⟩
  obtain rfl : i = 0 := by omega
  exact Or.inr ⟨rfl, Int.le_refl _⟩
theorem kept_new {E B : Nat → Int} {m j : Nat} (h : Kept E B m j) (hl : lessB (E j) (B j) (E m) (B m) = true) : Kept E B j (j + 1) := by
  rw [lessB_true] at hl
  refine ⟨by omega, fun i hi => ?_⟩
  by_cases e : i = j
  · subst e
    exact Or.inr ⟨rfl, Int.le_refl _⟩
  · have := h.least i (by omega)
    omega
theorem kept_old {E B : Nat → Int} {m j : Nat} (h : Kept E B m j) (hl : lessB (E j) (B j) (E m) (B m) = false) : Kept E B m (j + 1) := by
  rw [lessB_false] at hl
  refine ⟨by have := h.lt; omega, fun i hi => ?_⟩
  by_cases e : i = j
  · subst e
    exact hl
  · exact h.least i (by omega)
theorem kept_none {E B : Nat → Int} {m n j : Nat} (h : Kept E B m n) (hj : j < n) : lessB (E j) (B j) (E m) (B m) = false := by
  rw [lessB_false]
  exact h.least j hj

/-- z is the least end of lease among the first j. -/
structure LeastE (E : Nat → Int) (z : Int) (j : Nat) : Prop where
  pos : 0 < j
  has : ∃ i, i < j ∧ E i = z
  le : ∀ i, i < j → z ≤ E i
theorem least_one (E : Nat → Int) : LeastE E (E 0) 1 := by
  refine ⟨by omega, ⟨0, by omega, rfl⟩, fun i hi => ?_⟩
  obtain rfl : i = 0 := by omega
  exact Int.le_refl _
theorem least_new {E : Nat → Int} {z : Int} {j : Nat} (h : LeastE E z j) (hl : E j < z) : LeastE E (E j) (j + 1) := by
  refine ⟨by omega, ⟨j, by omega, rfl⟩, fun i hi => ?_⟩
  by_cases e : i = j
  · subst e
    exact Int.le_refl _
  · have := h.le i (by omega)
    omega
theorem least_old {E : Nat → Int} {z : Int} {j : Nat} (h : LeastE E z j) (hl : ¬ E j < z) : LeastE E z (j + 1) := by
  obtain ⟨h0, ⟨i, hi, he⟩, hle⟩ := h
  refine ⟨by omega, ⟨i, by omega, he⟩, fun i hi => ?_⟩
  by_cases e : i = j
  · subst e
    omega
  · exact hle i (by omega)

/-- Among the first j: has one that ends at z been found, and which is the least begin instant of those. -/
structure LeastB (E B : Nat → Int) (z : Int) (found : Bool) (y : Int) (j : Nat) : Prop where
  no : found = false → ∀ i, i < j → E i ≠ z
  has : found = true → ∃ i, i < j ∧ E i = z ∧ B i = y
  le : found = true → ∀ i, i < j → E i = z → y ≤ B i
theorem leastB_start (E B : Nat → Int) (z : Int) : LeastB E B z false 0 0 := ⟨fun _ i hi => absurd hi (Nat.not_lt_zero i), fun h => absurd h Bool.false_ne_true, fun h => absurd h Bool.false_ne_true⟩
theorem leastB_skip {E B : Nat → Int} {z y : Int} {f : Bool} {j : Nat} (h : LeastB E B z f y j) (hl : E j ≠ z) : LeastB E B z f y (j + 1) := by
  refine ⟨fun hf i hi => ?_, fun hf => ?_, fun hf i hi he => ?_⟩
  · by_cases e : i = j
    · subst e; exact hl
    · exact h.no hf i (by omega)
  · obtain ⟨i, hi, h2⟩ := h.has hf
    exact ⟨i, by omega, h2⟩
  · by_cases e : i = j
    · subst e; exact absurd he hl
    · exact h.le hf i (by omega) he
theorem leastB_keep {E B : Nat → Int} {z y : Int} {j : Nat} (h : LeastB E B z true y j) (hl : ¬ B j < y) : LeastB E B z true y (j + 1) := by
  refine ⟨fun hf => absurd hf.symm Bool.false_ne_true, fun hf => ?_, fun hf i hi he => ?_⟩
  · obtain ⟨i, hi, h2⟩ := h.has hf
    exact ⟨i, by omega, h2⟩
  · by_cases e : i = j
    · subst e; omega
    · exact h.le hf i (by omega) he
theorem leastB_take {E B : Nat → Int} {z y : Int} {f : Bool} {j : Nat} (h : LeastB E B z f y j) (he : E j = z) (hl : f = false ∨ B j < y) : LeastB E B z true (B j) (j + 1) := by
  refine ⟨fun hf => absurd hf.symm Bool.false_ne_true, fun _ => ⟨j, by omega, he, rfl⟩, fun _ i hi h2 => ?_⟩
  by_cases e : i = j
  · subst e; exact Int.le_refl _
  · rcases hl with hl | hl
    · exact absurd h2 (h.no hl i (by omega))
    · cases f
      · exact absurd h2 (h.no rfl i (by omega))
      · have := h.le rfl i (by omega) h2
        omega

/-- The plain law. -/
theorem scan_law {E B : Nat → Int} {m n : Nat} {z y : Int} {f : Bool} (hk : Kept E B m n) (hz : LeastE E z n) (hy : LeastB E B z f y n) : E m = z ∧ B m = y := by
  have hm := hk.lt
  have hez : E m = z := by
    obtain ⟨i, hi, he⟩ := hz.has
    have h1 := hz.le m hm
    have h2 := hk.least i hi
    omega
  refine ⟨hez, ?_⟩
  cases f
  · exact absurd hez (hy.no rfl m hm)
  · obtain ⟨i, hi, he, hb⟩ := hy.has rfl
    have h1 := hy.le rfl m hm hez
    have h2 := hk.least i hi
    omega

set_option maxRecDepth 100000 in
set_option maxHeartbeats 1600000 in
theorem scan_far (a : Option Addr) (n c : Nat) (w : World) (h : 65536 < n ∨ n = 0) :
    Calls Try.prog 6 #[.slice a n c] w fun e w' => e = .returned (.bool true) ∧ Below w.heap.size w w' := by
  by_cases hz : n ≤ 1048576
  · have hzd : decide (n ≤ 1048576) = true := decide_eq_true hz
    rcases h with hn | rfl
    all_goals
      go_enter Try.func6, Try.ntmps6
      go_wp2_with fail
      refine (c18_any a _ c w).mono ?_
      rintro e w1 ⟨rfl, hw⟩
      obtain rfl : w = w1 := hw.symm
      rw [hzd]
      go_wp2_with fail
      go_ret
      exact ⟨rfl, Below.refl _ _⟩
  · have hzd : decide (n ≤ 1048576) = false := decide_eq_false hz
    go_enter Try.func6, Try.ntmps6
    go_wp2_with fail
    refine (c18_any a n c w).mono ?_
    rintro e w1 ⟨rfl, hw⟩
    obtain rfl : w = w1 := hw.symm
    rw [hzd]
    go_wp2_with fail
    go_ret
    exact ⟨rfl, Below.refl _ _⟩

set_option maxRecDepth 100000 in
set_option maxHeartbeats 4000000 in
theorem scan_near (x o n c : Nat) (E B : Nat → Int) (w : World) (hn : n ≤ 65536) (h0 : 0 < n) (hL : LeaseAt w x o n E B) (hx : x < w.heap.size) :
    Calls Try.prog 6 #[.slice (some ⟨x, o, none⟩) n c] w fun e w' => e = .returned (.bool true) ∧ Below w.heap.size w w' := by
  have hzd : decide (n ≤ 1048576) = true := decide_eq_true (by omega)
  go_enter Try.func6, Try.ntmps6
  go_wp2_with fail
  refine (c18_any _ n c w).mono ?_
  rintro e w1 ⟨rfl, hw⟩
  obtain rfl : w = w1 := hw.symm
  rw [hzd]
  go_wp2_with fail
  refine (c16_any x o n c E B w hn hL hx).mono ?_
  rintro e w1 ⟨rfl, hQ, hb⟩
  go_wp2_with fail
  go_loopw [4, 5] (fun m j wr => ∃ m' j' : Nat, m = .int .i64 m' ∧ j = .int .i64 j' ∧ j' ≤ n ∧ Kept E B m' j' ∧ Drawn w1 wr) (fun _ j _ => n - (intOf j).toNat)
  case atStart => exact ⟨0, 1, rfl, rfl, by omega, kept_one E B, Drawn.refl _⟩
  case round =>
    obtain ⟨m, j, rfl, rfl, hj, hK, hD⟩ := hrel
    obtain ⟨wq, hwq⟩ : ∃ wq, wq = wr := ⟨_, rfl⟩
    subst hwq
    by_cases hjn : j < n
    · go_wp2_with fail
      refine (c17_any _ n n j m E B wq hjn (by have := hK.lt; omega) (hQ.drawn hD)).mono ?_
      rintro e w2 ⟨rfl, hd⟩
      have hD2 := hD.trans hd
      cases hl : lessB (E j) (B j) (E m) (B m)
      · have hK2 := kept_old hK hl
        clear hl
        go_wp2_with fail
        go_roundw
        case rel => exact ⟨m, j + 1, rfl, by simp, by omega, hK2, hD2⟩
        case measure => simp [intOf]; omega
      · have hK2 := kept_new hK hl
        clear hl
        go_wp2_with fail
        go_roundw
        case rel => exact ⟨j, j + 1, rfl, by simp, by omega, hK2, hD2⟩
        case measure => simp [intOf]; omega
    · obtain rfl : j = n := by omega
      have hm := hK.lt
      go_wp2_with fail
      go_loopw [6] (fun j2 wr => ∃ j' : Nat, j2 = .int .i64 j' ∧ j' ≤ j ∧ Drawn w1 wr) (fun j2 _ => j - (intOf j2).toNat)
      case atStart => exact ⟨0, rfl, by omega, hD⟩
      case round =>
        obtain ⟨i, rfl, hi, hD2⟩ := hrel
        clear hD
        obtain ⟨wz, hwz⟩ : ∃ wz, wz = wr := ⟨_, rfl⟩
        subst hwz
        by_cases hin : i < j
        · go_wp2_with fail
          refine (c17_any _ j j i m E B wz hin hm (hQ.drawn hD2)).mono ?_
          rintro e w2 ⟨rfl, hd⟩
          have hD3 := hD2.trans hd
          rw [kept_none hK hin]
          go_wp2_with fail
          go_roundw
          case rel => exact ⟨i + 1, by simp, by omega, hD3⟩
          case measure => simp [intOf]; omega
        · obtain rfl : i = j := by omega
          have hc0 := ((hb.trans hD2.below).cell (p := ⟨x, o + 0 * 2, none⟩) hx).trans (hL 0 h0).1
          have hbz := hb.trans hD2.below
          clear hD2 hQ hb hin
          simp only [Nat.zero_mul, Nat.add_zero] at hc0
          go_wp2_with fail
          go_loop [7, 8] (fun z q => ∃ (z' : Int) (q' : Nat), z = .int .i64 z' ∧ q = .int .i64 q' ∧ q' ≤ i ∧ LeastE E z' q') (fun _ q => i - (intOf q).toNat)
          case atStart => exact ⟨_, 1, rfl, rfl, by omega, least_one E⟩
          case round =>
            obtain ⟨z, q, rfl, rfl, hq, hZ⟩ := hrel
            by_cases hqn : q < i
            · have hcq := (hbz.cell (p := ⟨x, o + q * 2, none⟩) hx).trans (hL q hqn).1
              by_cases hlt : E q < z
              · have hZ2 := least_new hZ hlt
                go_wp2_with fail
                go_round
                case rel => exact ⟨_, q + 1, rfl, by simp, by omega, hZ2⟩
                case measure => simp [intOf]; omega
              · have hZ2 := least_old hZ hlt
                go_wp2_with fail
                go_round
                case rel => exact ⟨z, q + 1, rfl, by simp, by omega, hZ2⟩
                case measure => simp [intOf]; omega
            · obtain rfl : q = i := by omega
              go_wp2_with fail
              go_loop [9, 10, 11] (fun f y p => ∃ (f' : Bool) (y' : Int) (p' : Nat), f = .bool f' ∧ y = .int .i64 y' ∧ p = .int .i64 p' ∧ p' ≤ q ∧ LeastB E B z f' y' p') (fun _ _ p => q - (intOf p).toNat)
              case atStart => exact ⟨false, 0, 0, rfl, rfl, rfl, by omega, leastB_start E B z⟩
              case round =>
                obtain ⟨f, y, p, rfl, rfl, rfl, hp, hY⟩ := hrel
                by_cases hpn : p < q
                · have hcp := (hbz.cell (p := ⟨x, o + p * 2, none⟩) hx).trans (hL p hpn).1
                  have hcb := (hbz.cell (p := ⟨x, o + p * 2 + 1, none⟩) hx).trans (hL p hpn).2
                  by_cases he : E p = z
                  · have he1 : decide (E p = z) = true := decide_eq_true he
                    have he2 : (E p == z) = true := by simp [he]
                    cases f
                    · have hY2 := leastB_take hY he (Or.inl rfl)
                      clear he hY
                      go_wp2_with fail
                      go_round
                      case rel => exact ⟨true, _, p + 1, rfl, rfl, by simp, by omega, hY2⟩
                      case measure => simp [intOf]; omega
                    · by_cases hlt : B p < y
                      · have hY2 := leastB_take hY he (Or.inr hlt)
                        clear he hY
                        go_wp2_with fail
                        go_round
                        case rel => exact ⟨true, _, p + 1, rfl, rfl, by simp, by omega, hY2⟩
                        case measure => simp [intOf]; omega
                      · have hY2 := leastB_keep hY hlt
                        clear he hY
                        go_wp2_with fail
                        go_round
                        case rel => exact ⟨true, _, p + 1, rfl, rfl, by simp, by omega, hY2⟩
                        case measure => simp [intOf]; omega
                  · have he1 : decide (E p = z) = false := decide_eq_false he
                    have he2 : (E p == z) = false := by simp [he]
                    have hY2 := leastB_skip hY he
                    clear he hY
                    go_wp2_with fail
                    go_round
                    case rel => exact ⟨f, _, p + 1, rfl, rfl, by simp, by omega, hY2⟩
                    case measure => simp [intOf]; omega
                · obtain rfl : p = q := by omega
                  obtain ⟨r1, r2⟩ := scan_law hK hZ hY
                  have hcm := (hbz.cell (p := ⟨x, o + m * 2, none⟩) hx).trans (hL m hm).1
                  have hcn := (hbz.cell (p := ⟨x, o + m * 2 + 1, none⟩) hx).trans (hL m hm).2
                  rw [r1] at hcm
                  rw [r2] at hcn
                  clear hK hZ hY r1 r2
                  go_wp2_with fail
                  go_ret
                  exact ⟨rfl, hbz⟩
end Go.Proofs.Qxb6616088a
