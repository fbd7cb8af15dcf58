/-
  ZZwaitStopped, pendingUnmoved, the law.
-/
import Derived.Test.Qxb6616082aDoorWait
import Derived.Deep.QuietTactic
import Derived.BigQuiet
namespace Go.Proofs.Qxb6616082aDoor
open Go.RowKit Go.Conc

theorem RepAt.drawn {w : World} {br bs : Nat} {s m : Int} {ws : List (Int × Nat)} (h : RepAt w br bs s ws m) (n : Nat) : RepAt (w.drewN n) br bs s ws m :=
  h.below ⟨rfl, rfl, rfl, Nat.le_refl _, fun _ _ => rfl⟩

set_option maxRecDepth 100000 in
set_option maxHeartbeats 1000000 in
theorem c7_have (br bs : Nat) (s t : Int) (ws : List (Int × Nat)) (hst : t ≤ s) (aE : Addr) (w : World) (hE : w.cell? ⟨0, 0, none⟩ = some (.iface 144 (.pointer (some aE)))) (hbr : 0 < br) (hR : RepAt w br bs s ws 0) :
    Calls Tryd.prog 7 #[.pointer (some ⟨br, 0, none⟩), .int .u64 t] w fun e w' => e = .returned (.tuple #[.bool false, .bool false]) ∧ RepAt w' br bs s ws 0 ∧ Below br w w' := by
  go_enter Tryd.func7, Tryd.ntmps7
  go_wp2_with fail
  refine (c11_any _).mono ?_
  rintro e w1 ⟨rfl, hw1⟩
  obtain rfl := hw1.symm
  go_wp2_with fail
  refine (c10_have br bs s t ws _ hst w hR).mono ?_
  rintro e w1 ⟨rfl, hR1, hb1⟩
  have hE1 := (hb1.cell (p := ⟨0, 0, none⟩) hbr).trans hE
  go_wp2_with fail
  go_quiet ((go_at_call 12; exact Calls.quiet_of_same (is_nil _ _)))
  go_wp2_with fail
  go_ret2
  exact ⟨rfl, hR1.drawn _, hb1.trans ⟨rfl, rfl, rfl, Nat.le_refl _, fun _ _ => rfl⟩⟩

set_option maxRecDepth 100000 in
set_option maxHeartbeats 1000000 in
theorem c7_wait (br bs : Nat) (s t : Int) (ws : List (Int × Nat)) (hn : ws.length ≤ 1000000) (hst : s < t) (aE : Addr) (w : World) (hE : w.cell? ⟨0, 0, none⟩ = some (.iface 144 (.pointer (some aE)))) (hbr : 0 < br) (hR : RepAt w br bs s ws 0) :
    Calls Tryd.prog 7 #[.pointer (some ⟨br, 0, none⟩), .int .u64 t] w fun e w' => e = .returned (.tuple #[.bool true, .bool true]) ∧ RepAt w' br bs s ws 0 ∧ Below br w w' := by
  go_enter Tryd.func7, Tryd.ntmps7
  go_wp2_with fail
  refine (c11_any _).mono ?_
  rintro e w1 ⟨rfl, hw1⟩
  obtain rfl := hw1.symm
  go_wp2_with fail
  refine (c10_wait br bs s t ws hn hst aE w hE hbr hR).mono ?_
  rintro e w1 ⟨rfl, hR1, hb1⟩
  have hE1 := (hb1.cell (p := ⟨0, 0, none⟩) hbr).trans hE
  go_wp2_with fail
  go_quiet ((go_at_call 12; exact Calls.quiet_of_same (is_same _ _)))
  go_wp2_with fail
  go_ret2
  exact ⟨rfl, hR1.drawn _, hb1.trans ⟨rfl, rfl, rfl, Nat.le_refl _, fun _ _ => rfl⟩⟩

/-- A slice that came in: its cells. -/
def RowAt (w : World) (ao : Option Addr) (n : Nat) (f : Nat → Value) : Prop :=
  ∀ i, i < n → ∃ b off, ao = some ⟨b, off, none⟩ ∧ w.cell? ⟨b, off + i, none⟩ = some (f i)
theorem RowAt.below {w w' : World} {ao : Option Addr} {n : Nat} {f : Nat → Value} (h : RowAt w ao n f) (hb : Below w.heap.size w w') : RowAt w' ao n f := fun i hi => by
  obtain ⟨b, off, e, hc⟩ := h i hi
  exact ⟨b, off, e, (hb.cell (p := ⟨b, off + i, none⟩) (World.block_lt_of_cell? _ _ hc)).trans hc⟩

/-- wq is wr, but for draws. -/
def Drawn (wr wq : World) : Prop := ∃ n, wq = wr.drewN n
theorem Drawn.refl (w : World) : Drawn w w := ⟨0, rfl⟩
theorem Drawn.cell {w wq : World} (h : Drawn w wq) (a : Addr) : wq.cell? a = w.cell? a := by obtain ⟨n, rfl⟩ := h; rfl
theorem Drawn.below {w wq : World} (h : Drawn w wq) {B : Nat} : Below B w wq := by obtain ⟨n, rfl⟩ := h; exact ⟨rfl, rfl, rfl, Nat.le_refl _, fun _ _ => rfl⟩
theorem Drawn.more {w wq : World} (h : Drawn w wq) (m : Nat) : Drawn w (wq.drewN m) := by
  obtain ⟨n, rfl⟩ := h
  exact ⟨n + m, by simp [World.drewN]; omega⟩

/-- The waiters' row, opened, whatever their number. -/
theorem RepAt.rows {w : World} {br bs : Nat} {s m : Int} {ws : List (Int × Nat)} (h : RepAt w br bs s ws m) :
    ∃ ao cap, w.cell? ⟨br, 76, none⟩ = some (.slice ao ws.length cap) ∧ ∀ k (hk : k < ws.length), ∃ g, ao = some ⟨g, 0, none⟩ ∧ w.cell? ⟨g, k * 2, none⟩ = some (.int .u64 ws[k].1) := by
  obtain ⟨ao, cap, h1, h2⟩ := h.waiters
  refine ⟨ao, cap, h1, fun k hk => ?_⟩
  obtain ⟨g, cap', hv, hb, hl⟩ := h2.form (by omega)
  cases hv
  have e := wCells_at _ k hk
  have a := h2.cells (g := g) rfl (k * 2) _ e.1
  have hadd : ∀ j, (⟨g, 0, none⟩ : Addr).add j = ⟨g, j, none⟩ := fun j => by unfold Addr.add; split <;> simp_all
  rw [hadd] at a
  exact ⟨g, rfl, a⟩

set_option maxRecDepth 100000 in
set_option maxHeartbeats 1000000 in
theorem c8_any (br bs : Nat) (s : Int) (ws : List (Int × Nat)) (hn : ws.length ≤ 1000000) (a : Option Addr) (c : Nat) (w : World) (hP : RowAt w a ws.length (fun i => .int .u64 (ws.getD i (0, 0)).1)) (hR : RepAt w br bs s ws 0) :
    Calls Tryd.prog 8 #[.pointer (some ⟨br, 0, none⟩), .slice a ws.length c] w fun e w' => e = .returned (.bool true) ∧ Drawn w w' := by
  obtain ⟨ao, cap, h76, hrow⟩ := hR.rows
  go_enter Tryd.func8, Tryd.ntmps8
  go_wp2_with fail
  refine (c13_any br ws.length cap ao w h76).mono ?_
  rintro e w1 ⟨rfl, hw1⟩
  obtain rfl := hw1.symm
  go_wp2_with fail
  go_loopw [5] (fun i wr => ∃ k : Nat, k ≤ ws.length ∧ i = .int .i64 k ∧ Drawn w wr) (fun i _ => ws.length - (intOf i).toNat)
  case atStart => exact ⟨0, Nat.zero_le _, rfl, .refl _⟩
  case round =>
    obtain ⟨wq, hwq⟩ : ∃ wq, wq = wr := ⟨_, rfl⟩
    subst hwq
    obtain ⟨k, hk, rfl, hD⟩ := hrel
    by_cases hlt : k < ws.length
    · obtain ⟨g, rfl, d1⟩ := hrow k hlt
      obtain ⟨b, o, rfl, hc⟩ := hP k hlt
      rw [← hD.cell] at hc d1
      have g1' := h76
      rw [← hD.cell] at g1'
      clear hP hrow
      have C14 : ∀ m, Calls Tryd.prog 14 #[.pointer (some ⟨br, 0, none⟩), .int .i64 (k : Int)] (wq.drewN m) fun e w' => e = .returned (.int .u64 ws[k].1) ∧ w' = wq.drewN m := fun m => c14_any _ _ _ _ _ _ _ (by simpa using g1') hlt (by simpa using d1)
      have H14 : Hid _ := C14
      clear C14
      go_wp2_with fail
      go_quiet ((go_at_call 14; exact Calls.quiet_of_same (H14.out _)))
      go_wp2_with fail
      go_roundw
      case rel => exact ⟨k + 1, by omega, by go_num, hD.more _⟩
      case measure => simp [intOf]; omega
    · go_wp2_with fail
      go_ret
      exact ⟨rfl, hD⟩

/-- A new replica. -/
theorem rep_start (w : World) (s : Int) : RepAt (((w.alloc (.chan 0 #[] false 0 0 false)).setChan w.heap.size 0 #[] true 0 0 false).alloc (.cells (repCells s w.heap.size) 95)) (w.heap.size + 1) w.heap.size s [] 0 ∧
    Below w.heap.size w (((w.alloc (.chan 0 #[] false 0 0 false)).setChan w.heap.size 0 #[] true 0 0 false).alloc (.cells (repCells s w.heap.size) 95)) := by
  have hs : ((w.alloc (.chan 0 #[] false 0 0 false)).setChan w.heap.size 0 #[] true 0 0 false).heap.size = w.heap.size + 1 := by rw [size_setChan]; simp
  have hc : ∀ j, (((w.alloc (.chan 0 #[] false 0 0 false)).setChan w.heap.size 0 #[] true 0 0 false).alloc (.cells (repCells s w.heap.size) 95)).cell? ⟨w.heap.size + 1, j, none⟩ = (repCells s w.heap.size)[j]? := fun j => World.cell?_alloc_at _ _ _ _ hs.symm
  refine ⟨⟨(hc 5).trans rfl, ?_, (hc 67).trans rfl, (hc 73).trans rfl, ⟨none, 0, (hc 76).trans rfl, World.ownsRow_nil _ _ _ _⟩, fun o => World.frozen?_alloc_at _ _ _ _ hs.symm, by simp [hs], by omega, fun x hx => by cases hx⟩, ?_⟩
  · rw [Below.heap_alloc _ _ _ (by omega)]
    exact heap_setChan _ _ _ _ _ _ _ _ (by simp)
  · exact (below_setChan ((Below.refl _ _).alloc (Nat.le_refl _) _) (Nat.le_refl _) _ _ _ _ _ _).alloc (by omega) _

theorem c8_at {n k : Nat} {a : Option Addr} {c br : Nat} {w : World} {R : Ending → World → Prop} (e : n = k) (h : Calls Tryd.prog 8 #[.pointer (some ⟨br, 0, none⟩), .slice a n c] w R) : Calls Tryd.prog 8 #[.pointer (some ⟨br, 0, none⟩), .slice a k c] w R := e ▸ h

theorem step_ws {ws : List (Int × Nat)} {f : Nat → Int} {k c : Nat} {x : Int} (hl : ws.length = k) (h : ∀ j, j < k → (ws.getD j (0, 0)).1 = f j) (hx : x = f k) : ∀ j, j < k + 1 → ((ws ++ [(x, c)]).getD j (0, 0)).1 = f j := fun j hj => by
  by_cases e : j = k
  · subst e; subst hl; simp [hx]
  · have hjk : j < k := by omega
    rw [← h j hjk]
    have : j < ws.length := by omega
    simp [List.getElem?_append_left this]

set_option maxRecDepth 100000 in
set_option maxHeartbeats 1600000 in
theorem walk3 (s t : Int) (a : Option Addr) (c : Nat) (ps : List Int) (aE : Addr) (w : World) (hE : w.cell? ⟨0, 0, none⟩ = some (.iface 144 (.pointer (some aE)))) (hP : RowAt w a ps.length (fun i => .int .u64 (ps.getD i 0))) :
    Calls Tryd.prog 3 #[.int .u64 s, .int .u64 t, .slice a ps.length c] w fun e w' => e = .returned (.bool true) ∧ Below w.heap.size w w' := by
  go_enter Tryd.func3, Tryd.ntmps3
  go_wp2_with fail
  refine (c4_any s t a ps.length c w).mono ?_
  rintro e w1 ⟨rfl, hw1⟩
  obtain rfl := hw1.symm
  by_cases hn : 1048576 < ps.length
  · have hd : decide (ps.length ≤ 1048576) = false := by simp; omega
    go_wp2_with fail
    go_ret
    exact ⟨rfl, Below.refl _ _⟩
  have hd : decide (ps.length ≤ 1048576) = true := by simp; omega
  by_cases hn2 : 131072 < ps.length
  · go_wp2_with fail
    go_ret
    exact ⟨rfl, Below.refl _ _⟩
  have hle : (ps.length : Int) ≤ 131072 := by omega
  clear hn hn2
  go_wp2_with fail
  clear hd
  go_loop [7] (fun i => ∃ k : Nat, k ≤ ps.length ∧ i = .int .i64 k) (fun i => ps.length - (intOf i).toNat)
  case atStart => exact ⟨0, Nat.zero_le _, rfl⟩
  case round =>
    obtain ⟨k, hk, rfl⟩ := hrel
    by_cases hlt : k < ps.length
    · obtain ⟨b, off, rfl, hc⟩ := hP k hlt
      clear hP
      go_wp2_with fail
      · go_ret
        exact ⟨rfl, Below.refl _ _⟩
      · go_round
        case rel => exact ⟨k + 1, by omega, by go_num⟩
        case measure => simp [intOf]; omega
    · have hke : k = ps.length := by omega
      subst hke
      go_wp2_with fail
      refine (c5_any s w).mono ?_
      rintro e w1 ⟨rfl, hw1⟩
      obtain ⟨hR1, hb1⟩ := rep_start w s
      rw [← hw1] at hR1 hb1
      clear hw1
      go_wp2_with fail
      go_loopw [9] (fun i wr => ∃ (k : Nat) (ws : List (Int × Nat)), k ≤ ps.length ∧ i = .int .i64 k ∧ ws.length = k ∧ (∀ j, j < k → (ws.getD j (0, 0)).1 = ps.getD j 0) ∧ RepAt wr (w.heap.size + 1) w.heap.size s ws 0 ∧ Below w.heap.size w wr) (fun i _ => ps.length - (intOf i).toNat)
      case atStart => exact ⟨0, [], Nat.zero_le _, rfl, rfl, fun j hj => by omega, hR1, hb1⟩
      case round =>
        obtain ⟨wq, hwq⟩ : ∃ wq, wq = wr := ⟨_, rfl⟩
        subst hwq
        obtain ⟨k, ws, hk, rfl, hlen, hws, hR, hb⟩ := hrel
        have Hlen : Hid (ws.length = k) := hlen
        have Hws : Hid _ := hws
        clear hlen hws
        by_cases hlt : k < ps.length
        · obtain ⟨b, off, rfl, hc⟩ := hP k hlt
          rw [← hb.cell (p := ⟨b, off + k, none⟩) (World.block_lt_of_cell? w _ hc)] at hc
          clear hP
          go_wp2_with fail
          refine (c6_any _ _ s _ ws (by have := Hlen.out; omega) _ hR).mono ?_
          rintro e w2 ⟨rfl, cc, hR2, hb2⟩
          go_wp2_with fail
          go_roundw
          case rel => exact ⟨k + 1, _, by omega, by go_num, by simp [Hlen.out], step_ws Hlen.out Hws.out (by simp [hlt]), hR2, hb.trans (hb2.mono (by omega))⟩
          case measure => simp [intOf]; omega
        · have hke : k = ps.length := by omega
          subst hke
          have hwn : ws.length ≤ 1000000 := by have := Hlen.out; omega
          have h0l := World.block_lt_of_cell? w _ hE
          have hE1 := (hb.cell (p := ⟨0, 0, none⟩) h0l).trans hE
          have hP1 : RowAt w a ws.length (fun i => .int .u64 (ws.getD i (0, 0)).1) := fun i hi => by
            have hi' : i < ps.length := by rw [← Hlen.out]; exact hi
            obtain ⟨b, off, e, hc⟩ := hP i hi'
            have hx := Hws.out i hi'
            exact ⟨b, off, e, by rw [hc]; show some (Value.int .u64 (ps.getD i 0)) = some (Value.int .u64 (ws.getD i (0, 0)).1); rw [hx]⟩
          clear hP
          by_cases hst : t ≤ s
          · have hds : decide (s < t) = false := decide_eq_false (by omega)
            go_wp2_with fail
            refine (c7_have _ _ s t ws hst aE _ hE1 (by omega) hR).mono ?_
            rintro e w2 ⟨rfl, hR2, hb2⟩
            have hb3 := hb.trans (hb2.mono (by omega))
            have hP2 := hP1.below (hb3)
            have hE2 := (hb3.cell (p := ⟨0, 0, none⟩) h0l).trans hE
            go_wp2_with fail
            refine (c8_at Hlen.out (c8_any _ _ s ws hwn a c w2 hP2 hR2)).mono ?_
            rintro e w3 ⟨rfl, hD3⟩
            have hR3 := hR2.below hD3.below
            have hb4 := hb3.trans (hD3.below (B := w.heap.size))
            have hE3 := (hb4.cell (p := ⟨0, 0, none⟩) h0l).trans hE
            go_wp2_with fail
            refine (c7_have _ _ s t ws hst aE _ hE3 (by omega) hR3).mono ?_
            rintro e w4 ⟨rfl, hR4, hb5⟩
            have hb6 := hb4.trans (hb5.mono (by omega))
            have hP4 := hP1.below (hb6)
            go_wp2_with fail
            refine (c8_at Hlen.out (c8_any _ _ s ws hwn a c w4 hP4 hR4)).mono ?_
            rintro e w5 ⟨rfl, hD5⟩
            have hR5 := hR4.below hD5.below
            have hb7 := hb6.trans (hD5.below (B := w.heap.size))
            go_wp2_with fail
            refine (c9_any _ _ _ hR5.settled).mono ?_
            rintro e w6 ⟨rfl, hw6⟩
            obtain rfl := hw6.symm
            go_wp2_with fail
            go_ret
            exact ⟨rfl, hb7⟩
          · have hst' : s < t := by omega
            clear hst
            have hds : decide (s < t) = true := decide_eq_true hst'
            go_wp2_with fail
            refine (c7_wait _ _ s t ws hwn hst' aE _ hE1 (by omega) hR).mono ?_
            rintro e w2 ⟨rfl, hR2, hb2⟩
            have hb3 := hb.trans (hb2.mono (by omega))
            have hP2 := hP1.below (hb3)
            have hE2 := (hb3.cell (p := ⟨0, 0, none⟩) h0l).trans hE
            go_wp2_with fail
            refine (c8_at Hlen.out (c8_any _ _ s ws hwn a c w2 hP2 hR2)).mono ?_
            rintro e w3 ⟨rfl, hD3⟩
            have hR3 := hR2.below hD3.below
            have hb4 := hb3.trans (hD3.below (B := w.heap.size))
            have hE3 := (hb4.cell (p := ⟨0, 0, none⟩) h0l).trans hE
            go_wp2_with fail
            refine (c7_wait _ _ s t ws hwn hst' aE _ hE3 (by omega) hR3).mono ?_
            rintro e w4 ⟨rfl, hR4, hb5⟩
            have hb6 := hb4.trans (hb5.mono (by omega))
            have hP4 := hP1.below (hb6)
            go_wp2_with fail
            refine (c8_at Hlen.out (c8_any _ _ s ws hwn a c w4 hP4 hR4)).mono ?_
            rintro e w5 ⟨rfl, hD5⟩
            have hR5 := hR4.below hD5.below
            have hb7 := hb6.trans (hD5.below (B := w.heap.size))
            go_wp2_with fail
            refine (c9_any _ _ _ hR5.settled).mono ?_
            rintro e w6 ⟨rfl, hw6⟩
            obtain rfl := hw6.symm
            go_wp2_with fail
            go_ret
            exact ⟨rfl, hb7⟩
end Go.Proofs.Qxb6616082aDoor
