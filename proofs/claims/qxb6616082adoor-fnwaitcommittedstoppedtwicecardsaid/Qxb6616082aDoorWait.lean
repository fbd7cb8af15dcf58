/-
  The walk of waitCommitted on a stopped replica.
-/
import Derived.Test.Qxb6616082aDoorAdd
import Derived.Test.Qxb6616082aDoorIs
import Derived.Deep.DeepCutAuto
namespace Go.Proofs.Qxb6616082aDoor
open Go.RowKit Go.Conc Go.MuLone
attribute [local go_sem ↓] Go.wp_at_zero Go.wp_at_succ

set_option maxRecDepth 100000 in
set_option maxHeartbeats 1000000 in
theorem c10_have (br bs : Nat) (s t : Int) (ws : List (Int × Nat)) (v : Value) (hst : t ≤ s) (w : World) (hR : RepAt w br bs s ws 0) :
    Calls Tryd.prog 10 #[.pointer (some ⟨br, 0, none⟩), .iface 113 v, .int .u64 t] w fun e w' => e = .returned .nilIface ∧ RepAt w' br bs s ws 0 ∧ Below br w w' := by
  have h73 := hR.settled
  have hR1 := hR.setMu 1
  have hR2 := hR1.setMu 0
  go_enter Tryd.func10, Tryd.ntmps10
  go_wp2_with fail
  refine (lock_free muLib ⟨br, 67, none⟩ _ hR.mu (hR.froz 67)).mono ?_
  rintro e w1 ⟨rfl, rfl⟩
  go_wp2_with fail
  refine (unlock_held muLib ⟨br, 67, none⟩ _ hR1.mu (hR1.froz 67)).mono ?_
  rintro e w1 ⟨rfl, rfl⟩
  go_wp2_with fail
  go_ret
  exact ⟨rfl, hR2, ((Below.refl br w).setCell (p := ⟨br, 67, none⟩) (Nat.le_refl _) _).setCell (p := ⟨br, 67, none⟩) (Nat.le_refl _) _⟩


theorem wa_facts {w wa : World} {br bs : Nat} {s t : Int} {ws : List (Int × Nat)} (hR : RepAt w br bs s ws 0) (hwa : wa = ((w.setCell ⟨br, 67, none⟩ (.int .i32 1)).alloc (.chan 0 #[] false 0 0 false)).alloc (.cells #[.int .u64 t, .chan (some w.heap.size)] 97)) :
    RepAt wa br bs s ws 1 ∧ wa.cell? ⟨w.heap.size + 1, 0, none⟩ = some (.int .u64 t) ∧ wa.cell? ⟨w.heap.size + 1, 1, none⟩ = some (.chan (some w.heap.size)) ∧ wa.heap[w.heap.size]? = some (.chan 0 #[] false 0 0 false) ∧ wa.heap.size = w.heap.size + 2 ∧ Below br w wa ∧
      ∃ ao cap, wa.cell? ⟨br, 76, none⟩ = some (.slice ao ws.length cap) ∧ wa.ownsRow (br + 1) 97 2 (.slice ao ws.length cap) ws.length (wCells ws) ∧ ∀ k, (Value.slice ao ws.length cap).ownBlock = some k → k < w.heap.size := by
  subst hwa
  have hs1 : (w.setCell ⟨br, 67, none⟩ (.int .i32 1)).heap.size = w.heap.size := by simp [World.setCell]
  have hb : Below (w.setCell ⟨br, 67, none⟩ (.int .i32 1)).heap.size (w.setCell ⟨br, 67, none⟩ (.int .i32 1)) (((w.setCell ⟨br, 67, none⟩ (.int .i32 1)).alloc (.chan 0 #[] false 0 0 false)).alloc (.cells #[.int .u64 t, .chan (some w.heap.size)] 97)) := ((Below.refl _ _).alloc (Nat.le_refl _) _).alloc (by simp) _
  have hlt := hR.lt
  obtain ⟨ao, cap, q1, q2⟩ := hR.waiters
  refine ⟨(hR.setMu 1).below hb, ?_, ?_, ?_, by simp [hs1], ?bel, ao, cap, ?_, ((ownsRow_setCell_below q2 (a := ⟨br, 67, none⟩) (by simp) _).alloc _).alloc _, fun k hk => (q2.lt k hk).2⟩
  case bel => exact (((Below.refl br w).setCell (p := ⟨br, 67, none⟩) (Nat.le_refl _) _).alloc (by rw [hs1]; omega) _).alloc (by simp [hs1]; omega) _
  · rw [World.cell?_alloc_at _ _ _ _ (by simp [hs1])]; rfl
  · rw [World.cell?_alloc_at _ _ _ _ (by simp [hs1])]; rfl
  · rw [← hs1]
    exact heap_alloc2_old _ _ _
  · rw [hb.cell (p := ⟨br, 76, none⟩) (by rw [hs1]; exact hlt), World.cell?_setCell_other _ _ _ _ (by simp)]; exact q1

/-- Behind the append of the new waiter. -/
theorem wait_mid {w wa wb w1 : World} {br bs g cap cap' : Nat} {s t m : Int} {ws : List (Int × Nat)} {ao : Option Addr} (hRa : RepAt wa br bs s ws m) (h76 : wa.cell? ⟨br, 76, none⟩ = some (.slice ao ws.length cap))
    (hown : wa.ownsRow (br + 1) 97 2 (.slice ao ws.length cap) ws.length (wCells ws)) (hB : Below wa.heap.size wa wb) (hgrow : wb.grownBy w1 (Value.slice ao ws.length cap).ownBlock)
    (hown1 : w1.ownsRow (br + 1) 97 2 (.slice (some ⟨g, 0, none⟩) (ws.length + 1) cap') (ws.length + 1) (wCells ws ++ [.int .u64 t, .chan (some w.heap.size)])) (hbox : w.heap.size + 1 < wa.heap.size) (hold : ∀ k, (Value.slice ao ws.length cap).ownBlock = some k → k < w.heap.size)
    (hB2 : wa.cell? ⟨w.heap.size + 1, 1, none⟩ = some (.chan (some w.heap.size))) (hch : wa.heap[w.heap.size]? = some (.chan 0 #[] false 0 0 false)) (hbrw : br < w.heap.size) :
    RepAt (w1.setCell ⟨br, 76, none⟩ (.slice (some ⟨g, 0, none⟩) (ws.length + 1) cap')) br bs s (ws ++ [(t, w.heap.size)]) m ∧ Below br wa (w1.setCell ⟨br, 76, none⟩ (.slice (some ⟨g, 0, none⟩) (ws.length + 1) cap')) ∧
      (w1.setCell ⟨br, 76, none⟩ (.slice (some ⟨g, 0, none⟩) (ws.length + 1) cap')).cell? ⟨w.heap.size + 1, 1, none⟩ = some (.chan (some w.heap.size)) ∧ (w1.setCell ⟨br, 76, none⟩ (.slice (some ⟨g, 0, none⟩) (ws.length + 1) cap')).heap[w.heap.size]? = some (.chan 0 #[] false 0 0 false) := by
  obtain ⟨r1, r2⟩ := add_done hRa h76 hown hB (c := w.heap.size) (by have := hB.size; omega) hgrow hown1
  refine ⟨r1, r2, ?_, ?_⟩
  · rw [World.cell?_setCell_other _ _ _ _ (by simp), grown_cell (p := ⟨w.heap.size + 1, 1, none⟩) hB hgrow hbox (fun e => by have := hold _ e.symm; simp only at this; omega)]; exact hB2
  · rw [Below.heap_setCell _ _ _ _ (by simp; omega), grown_block hB hgrow (by omega) (fun e => by have := hold _ e.symm; omega)]; exact hch

/-- Behind the Unlock. -/
theorem wd_facts {w wc wd : World} {br bs : Nat} {s : Int} {ws : List (Int × Nat)} (hR : RepAt wc br bs s ws 1) (hbx : wc.cell? ⟨w.heap.size + 1, 1, none⟩ = some (.chan (some w.heap.size))) (hch : wc.heap[w.heap.size]? = some (.chan 0 #[] false 0 0 false)) (hbr : br < w.heap.size)
    (hwd : wd = wc.setCell ⟨br, 67, none⟩ (.int .i32 0)) :
    RepAt wd br bs s ws 0 ∧ wd.cell? ⟨w.heap.size + 1, 1, none⟩ = some (.chan (some w.heap.size)) ∧ wd.heap[w.heap.size]? = some (.chan 0 #[] false 0 0 false) ∧ Below br wc wd := by
  subst hwd
  refine ⟨hR.setMu 0, ?_, ?_, (Below.refl br wc).setCell (p := ⟨br, 67, none⟩) (Nat.le_refl _) _⟩
  · rw [World.cell?_setCell_other _ _ _ _ (by simp)]; exact hbx
  · rw [Below.heap_setCell _ _ _ _ (by simp; omega)]; exact hch

theorem methodDone (w : World) : (method 464 113 (.agg #[]) "Done").run Tryd.prog w = .ok (68, .agg #[]) w := by kernel_rfl

/-- Behind Done. -/
theorem we_facts {w wd we : World} {br bs : Nat} {s : Int} {ws : List (Int × Nat)} {o : Obj} (hR : RepAt wd br bs s ws 0) (hbx : wd.cell? ⟨w.heap.size + 1, 1, none⟩ = some (.chan (some w.heap.size))) (hch : wd.heap[w.heap.size]? = some (.chan 0 #[] false 0 0 false)) (hwe : we = wd.alloc o) :
    RepAt we br bs s ws 0 ∧ we.cell? ⟨w.heap.size + 1, 1, none⟩ = some (.chan (some w.heap.size)) ∧ we.heap[w.heap.size]? = some (.chan 0 #[] false 0 0 false) ∧ Below br wd we := by
  subst hwe
  have hb : Below wd.heap.size wd (wd.alloc o) := (Below.refl _ _).alloc (Nat.le_refl _) _
  refine ⟨hR.below hb, ?_, ?_, hb.mono (Nat.le_of_lt hR.lt)⟩
  · rw [hb.cell (p := ⟨w.heap.size + 1, 1, none⟩) (World.block_lt_of_cell? _ _ hbx)]; exact hbx
  · rw [hb.block _ (Array.getElem?_eq_some_iff.1 hch).1]; exact hch

theorem wf_facts {w wd wf : World} {br bs : Nat} {s : Int} {ws : List (Int × Nat)} (hR : RepAt wd br bs s ws 0) (hbx : wd.cell? ⟨w.heap.size + 1, 1, none⟩ = some (.chan (some w.heap.size))) (hwf : wf = wd.setCell ⟨br, 67, none⟩ (.int .i32 1)) :
    RepAt wf br bs s ws 1 ∧ wf.cell? ⟨w.heap.size + 1, 1, none⟩ = some (.chan (some w.heap.size)) ∧ Below br wd wf := by
  subst hwf
  refine ⟨hR.setMu 1, ?_, (Below.refl br wd).setCell (p := ⟨br, 67, none⟩) (Nat.le_refl _) _⟩
  rw [World.cell?_setCell_other _ _ _ _ (by simp)]; exact hbx

/-- The waiters' row, opened. -/
theorem RepAt.row {w : World} {br bs : Nat} {s t m : Int} {c : Nat} {ws : List (Int × Nat)} (h : RepAt w br bs s (ws ++ [(t, c)]) m) :
    ∃ g cap, w.cell? ⟨br, 76, none⟩ = some (.slice (some ⟨g, 0, none⟩) (ws ++ [(t, c)]).length cap) ∧ br < g ∧ g < w.heap.size ∧ ws.length + 1 ≤ cap ∧ WRow w g (ws ++ [(t, c)]) ∧ ∀ o, w.frozen? ⟨g, o, none⟩ = false := by
  obtain ⟨ao, cap, h1, h2⟩ := h.waiters
  obtain ⟨g, cap', hv, hb, hl⟩ := h2.form (by simp)
  cases hv
  have h3 := h2
  rcases h2.2 with ⟨h0, _⟩ | ⟨g', cap', cur, hv, hb', hh, hn, hm, hs, ht⟩
  · cases h0
  cases hv
  refine ⟨g, cap, h1, hb, hl, by simpa using hn, fun i hi => ?_, fun o => frozen_of_row w g o cur 97 hh⟩
  have e := wCells_at _ i hi
  have a := h3.cells (g := g) rfl (i * 2) _ e.1
  have b := h3.cells (g := g) rfl (i * 2 + 1) _ e.2
  have hadd : ∀ j, (⟨g, 0, none⟩ : Addr).add j = ⟨g, j, none⟩ := fun j => by unfold Addr.add; split <;> simp_all
  rw [hadd] at a b
  exact ⟨a, b⟩

/-- Behind DeleteFunc. -/
theorem wg_facts {wf w4 w5 : World} {br bs g cap c : Nat} {s t m : Int} {ws : List (Int × Nat)} {x y : Value} (hR : RepAt wf br bs s (ws ++ [(t, c)]) m) (h76 : wf.cell? ⟨br, 76, none⟩ = some (.slice (some ⟨g, 0, none⟩) (ws.length + 1) cap)) (hg : br < g) (hb : Below wf.heap.size wf w5)
    (hw4 : w4 = (w5.setCell ⟨g, ws.length * 2, none⟩ x).setCell ⟨g, ws.length * 2 + 1, none⟩ y) :
    w4.cell? ⟨br, 76, none⟩ = some (.slice (some ⟨g, 0, none⟩) (ws.length + 1) cap) ∧ w4.frozen? ⟨br, 76, none⟩ = false ∧ RepAt (w4.setCell ⟨br, 76, none⟩ (.slice (some ⟨g, 0, none⟩) ws.length cap)) br bs s ws m ∧ Below br wf (w4.setCell ⟨br, 76, none⟩ (.slice (some ⟨g, 0, none⟩) ws.length cap)) := by
  subst hw4
  have hlt := hR.lt
  have hord := hR.ord
  have hR5 := hR.below hb
  have h76' := (hb.cell (p := ⟨br, 76, none⟩) hlt).trans h76
  have c76 : ((w5.setCell ⟨g, ws.length * 2, none⟩ x).setCell ⟨g, ws.length * 2 + 1, none⟩ y).cell? ⟨br, 76, none⟩ = some (.slice (some ⟨g, 0, none⟩) (ws.length + 1) cap) := by
    rw [World.cell?_setCell_other _ _ _ _ (by first | (simp; done) | (simp; omega)), World.cell?_setCell_other _ _ _ _ (by first | (simp; done) | (simp; omega))]; exact h76'
  have cO : ∀ o, o ≠ 76 → (((w5.setCell ⟨g, ws.length * 2, none⟩ x).setCell ⟨g, ws.length * 2 + 1, none⟩ y).setCell ⟨br, 76, none⟩ (.slice (some ⟨g, 0, none⟩) ws.length cap)).cell? ⟨br, o, none⟩ = w5.cell? ⟨br, o, none⟩ := fun o ho => by
    rw [World.cell?_setCell_other _ _ _ _ (by first | (simp; done) | (simp; omega)), World.cell?_setCell_other _ _ _ _ (by first | (simp; done) | (simp; omega)), World.cell?_setCell_other _ _ _ _ (by first | (simp; done) | (simp; omega))]
  refine ⟨c76, by rw [World.frozen?_setCell, World.frozen?_setCell]; exact hR5.froz 76, ⟨(cO 5 (by omega)).trans hR5.stop, ?_, (cO 67 (by omega)).trans hR5.mu, (cO 73 (by omega)).trans hR5.settled, ⟨_, cap, World.cell?_setCell_same _ _ _ c76, ?_⟩, fun o => ?_, ?_, hord, fun z hz => ?_⟩,
    (((hb.mono (B' := br) (by omega)).setCell (p := ⟨g, ws.length * 2, none⟩) (by simp; omega) _).setCell (p := ⟨g, ws.length * 2 + 1, none⟩) (by simp; omega) _).setCell (p := ⟨br, 76, none⟩) (Nat.le_refl _) _⟩
  · rw [Below.heap_setCell _ _ _ _ (by simp; omega), Below.heap_setCell _ _ _ _ (by simp; omega), Below.heap_setCell _ _ _ _ (by simp; omega)]; exact hR5.shut
  · refine ownsRow_setCell_below ?_ (by simp) _
    obtain ⟨ao, cp, q1, q2⟩ := hR5.waiters
    rw [h76'] at q1
    simp only [List.length_append, List.length_cons, List.length_nil, Nat.zero_add, Option.some.injEq, Value.slice.injEq] at q1
    obtain ⟨rfl, _, rfl⟩ := q1
    rcases q2.2 with ⟨h0, _⟩ | ⟨g', cap', cur, hv, hb', hh, hn, hm, hs, ht⟩
    · cases h0
    simp only [Value.slice.injEq, Option.some.injEq, Addr.mk.injEq, and_true, true_and] at hv
    obtain ⟨rfl, _, rfl⟩ := hv
    simp only [List.length_append, List.length_cons, List.length_nil, Nat.zero_add] at hn ht
    refine ⟨wCells_length ws, .inr ⟨g, cap, (cur.setIfInBounds (ws.length * 2) x).setIfInBounds (ws.length * 2 + 1) y, rfl, hb', ?_, by omega, hm, by simpa using hs, ?_⟩⟩
    · have e1 := heap_setCell_same w5 g (ws.length * 2) cur 97 x hh
      exact heap_setCell_same _ g (ws.length * 2 + 1) _ 97 y e1
    · have e2 : (wCells ws) = (cur.toList.take ((ws.length + 1) * 2)).take (ws.length * 2) := by
        rw [ht, wCells_snoc, ← wCells_length ws, List.take_left]
      rw [e2, List.take_take, Nat.min_eq_left (by omega)]
      apply List.ext_getElem?
      intro i
      simp only [List.getElem?_take]
      split
      · simp only [Array.getElem?_toList]
        rw [Array.getElem?_setIfInBounds_ne (by omega), Array.getElem?_setIfInBounds_ne (by omega)]
      · rfl
  · rw [World.frozen?_setCell, World.frozen?_setCell, World.frozen?_setCell]; exact hR5.froz o
  · simp [World.setCell]; exact hR5.lt
  · simp [World.setCell]; exact hR5.chans z (by simp [hz])

theorem res3 (a b : Nat) (z z' z'' v : Value) (ok : Bool) : commResult #[rcase a z, { chan := .chan none, send := none, zero := z' }, rcase b z''] .select ((2 : Nat) : Int) v ok = .tuple #[goInt 2, .bool ok, z, z', v] := by
  simp [commResult, rcase, List.zipIdx_cons]

set_option maxRecDepth 100000 in
set_option maxHeartbeats 1000000 in
theorem c10_wait (br bs : Nat) (s t : Int) (ws : List (Int × Nat)) (hn : ws.length ≤ 1000000) (hst : s < t) (aE : Addr) (w : World) (hE : w.cell? ⟨0, 0, none⟩ = some (.iface 144 (.pointer (some aE)))) (hbr : 0 < br) (hR : RepAt w br bs s ws 0) :
    Calls Tryd.prog 10 #[.pointer (some ⟨br, 0, none⟩), .iface 113 (.agg #[]), .int .u64 t] w fun e w' => e = .returned (.iface 144 (.pointer (some aE))) ∧ RepAt w' br bs s ws 0 ∧ Below br w w' := by
  have h73 := hR.settled
  have hR1 := hR.setMu 1
  have hmk := mkc
  go_enter Tryd.func10, Tryd.ntmps10
  go_wp2_with fail
  refine (lock_free muLib ⟨br, 67, none⟩ _ hR.mu (hR.froz 67)).mono ?_
  rintro e w1 ⟨rfl, rfl⟩
  go_wp2_with fail
  obtain ⟨wa, hwa⟩ : ∃ wa, wa = ((w.setCell ⟨br, 67, none⟩ (.int .i32 1)).alloc (.chan 0 #[] false 0 0 false)).alloc (.cells #[.int .u64 t, .chan (some w.heap.size)] 97) := ⟨_, rfl⟩
  rw [← hwa]
  obtain ⟨hRa, hB1, hB2, hch, hszA, hbel, ao, cap, h76, hown, hold⟩ := wa_facts hR hwa
  have HA : Hid (wa.heap.size = w.heap.size + 2) := hszA
  clear hwa hszA hR1
  have hfz := hRa.froz 76
  have hlta := hRa.lt
  have hne := owns_ne hown (Nat.le_refl br)
  have hBel : Below wa.heap.size wa (wa.alloc (.cells #[.int .u64 t, .chan (some w.heap.size)] 97)).drew := ((Below.refl _ _).alloc (Nat.le_refl _) _).drew
  have hown2 := (hown.alloc (.cells #[.int .u64 t, .chan (some w.heap.size)] 97)).drew
  obtain ⟨i0, hi0, hz0, hz1, hz2⟩ := info_parts info97
  have hbrw := hR.lt
  have hmax : ws.length + 1 ≤ maxLen := by unfold maxLen; omega
  have hbox : w.heap.size + 1 < wa.heap.size := by have := HA.out; omega
  go_cut [] (fun wc => RepAt wc br bs s (ws ++ [(t, w.heap.size)]) 1 ∧ Below br wa wc ∧ wc.cell? ⟨w.heap.size + 1, 1, none⟩ = some (.chan (some w.heap.size)) ∧ wc.heap[w.heap.size]? = some (.chan 0 #[] false 0 0 false))
  case first =>
    go_region_law (refine step_append_lies _ (by rfl) _ _ _ (by rfl) (br + 1) 97 i0 _ 2 16 Tryd.underlying91 hi0 hz0 hz1 hz2 rfl (by omega) _ ws.length (wCells ws) (by rfl) hown2 ⟨wa.heap.size, 0, none⟩ 1 1 [.int .u64 t, .chan (some w.heap.size)] (by rfl) (by rfl) (World.news_of_block (cs := #[.int .u64 t, .chan (some w.heap.size)]) (t := 97) (fr := (0, 0)) (heap_alloc_new wa _)) (by simp [Value.oneCell']) (by omega) hmax (by omega) (by simp; omega) (wa.heap.size + 1) (by simp) ?_; intro g cap' w1 hown1 hgrow hat hlt1; have f76 : w1.frozen? ⟨br, 76, none⟩ = false := (grown_frozen hBel hgrow hlta hne).trans hfz; have c76 : w1.cell? ⟨br, 76, none⟩ = some (.slice ao ws.length cap) := (grown_cell hBel hgrow hlta hne).trans h76)
    all_goals
      go_wp2_with fail
      go_meet
      exact wait_mid hRa h76 hown hBel hgrow hown1 hbox hold hB2 hch hbrw
  case rest =>
    obtain ⟨hRc, hbc, hbx, hchc⟩ := hcut
    go_wp2_with fail
    refine (unlock_held muLib ⟨br, 67, none⟩ _ hRc.mu (hRc.froz 67)).mono ?_
    rintro e w1 ⟨rfl, hw1⟩
    obtain ⟨hRd, hbxd, hchd, hbd⟩ := wd_facts hRc hbx hchc hbrw hw1
    have hbelD : Below br w w1 := (hbel.trans hbc).trans hbd
    clear hw1 hRc hbc hbx hchc hbd hbel hRa hB1 hB2 hch h76 hown hold hfz hne hBel hown2
    have h5 := hRd.stop
    have hmD := methodDone
    go_wp2_with fail
    refine (c68_any _).mono ?_
    rintro e w2 ⟨rfl, hw2⟩
    obtain ⟨hRe, hbxe, hche, hbe⟩ := we_facts hRd hbxd hchd hw2
    have hbelE : Below br w w2 := hbelD.trans hbe
    clear hw2 hRd hbxd hchd hbe hbelD h5
    have h5 := hRe.stop
    go_upto_region 12 with fail
    refine wp_region_sel_shut (cases := #[rcase w.heap.size (.agg #[]), { chan := .chan none, send := none, zero := .agg #[] }, rcase bs (.agg #[])]) (blocking := true) (k := 2) (c := bs) (z := .agg #[]) (cap := 0) (s := 0) (r := 0) (tm := false) (w₁ := w2) rfl ?run rfl ?others hRe.shut ?more
    case run => simp [go_sem, execOp, rcase, Act.eval]
    case others =>
      intro m c' hm hc'
      rcases m with _ | _ | _ | m
      · simp only [List.getElem?_toArray, List.getElem?_cons_zero, Option.some.injEq] at hc'
        subst hc'
        exact noWay_recv hche
      · simp only [List.getElem?_toArray, List.getElem?_cons_succ, List.getElem?_cons_zero, Option.some.injEq] at hc'
        subst hc'
        exact noWay_nil none
      · exact absurd rfl hm
      · simp at hc'
    rw [res3]
    have hE2 := (hbelE.cell (p := ⟨0, 0, none⟩) hbr).trans hE
    go_wp2_with fail
    refine (lock_free muLib ⟨br, 67, none⟩ _ hRe.mu (hRe.froz 67)).mono ?_
    rintro e w3 ⟨rfl, hw3⟩
    obtain ⟨hRf, hbxf, hbf⟩ := wf_facts hRe hbxe hw3
    have hbelF : Below br w w3 := hbelE.trans hbf
    clear hw3 hRe hbxe hche hbf hbelE h5 hE2
    obtain ⟨g, cap2, h76, hgb, hgl, hcap2, hrow, hfr⟩ := hRf.row
    have hf76 := hRf.froz 76
    have hbxl := World.block_lt_of_cell? _ _ hbxf
    have hneq : ∀ x ∈ ws, x.2 ≠ w.heap.size := fun x hx => by have := hR.chans x hx; omega
    simp only [List.length_append, List.length_cons, List.length_nil, Nat.zero_add] at h76
    go_wp2_with fail
    refine (c17_any ws t w.heap.size (w.heap.size + 1) g cap2 hn hcap2 hneq w3 hrow hgl hbxf hbxl (hfr _) (hfr _)).mono ?_
    rintro e w4 ⟨rfl, w5, hb5, hw4⟩
    obtain ⟨k1, k2, k3, k4⟩ := wg_facts hRf h76 hgb hb5 hw4
    clear hw4 hb5
    have k5 := k3.setMu 0
    have k6 := (hbelF.trans k4).setCell (p := ⟨br, 67, none⟩) (Nat.le_refl _) (.int .i32 0)
    go_wp2_with fail
    refine (unlock_held muLib ⟨br, 67, none⟩ _ k3.mu (k3.froz 67)).mono ?_
    rintro e w6 ⟨rfl, rfl⟩
    go_wp2_with fail
    go_ret
    exact ⟨rfl, k5, k6⟩
end Go.Proofs.Qxb6616082aDoor
