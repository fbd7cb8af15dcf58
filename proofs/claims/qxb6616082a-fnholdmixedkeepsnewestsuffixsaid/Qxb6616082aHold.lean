/-
  The walk of hold.
-/
import Derived.Test.Qxb6616082aLeaf
import Derived.Deep.RegionHeld3
import Derived.Deep.AppendLies
import Derived.Deep.DrawnRows
import Derived.Deep.DeepCutAuto
namespace Go.Proofs.Qxb6616082a
open Go.RowKit
attribute [local go_sem ↓] Go.wp_at_zero Go.wp_at_succ

/-- What a held message weighs. -/
def wt (bw : Int) (m : Bool) : Int := if m then bw else 64
def sumW (bw : Int) (es : List (Int × Bool)) : Int := (es.map fun e => wt bw e.2).sum

/-- The batch in memory: its requests lie in block br. -/
def BatchAt (w : World) (bb br : Nat) (ss : List ByteArray) : Prop :=
  w.cell? ⟨bb, 3, none⟩ = some (.slice (some ⟨br, 0, none⟩) ss.length ss.length) ∧ ReqAt w br ss

theorem BatchAt.below {w w' : World} {bb br : Nat} {ss : List ByteArray} {B : Nat} (h : BatchAt w bb br ss) (hb : Below B w w') (h1 : bb < B) (h2 : br < B) : BatchAt w' bb br ss := by
  refine ⟨by rw [hb.cell (p := ⟨bb, 3, none⟩) h1]; exact h.1, fun i hi => ?_⟩
  obtain ⟨c0, c1, c2, c3, c4, c5⟩ := h.2 i hi
  rw [← hb.cell (p := ⟨br, _, none⟩) h2] at c0 c1 c2 c3 c4 c5
  exact ⟨c0, c1, c2, c3, c4, c5⟩

theorem c17_any (ss : List ByteArray) (bb br : Nat) (m : Bool) (hn : ss.length ≤ 65536) (hs : foot ss ≤ 16777216) (w : World) (hbl : br < w.heap.size) (hB : BatchAt w bb br ss) :
    Calls Try.prog 17 #[.iface (mt m) (mx bb m)] w fun e w' => e = .returned (.int .i64 (wt (64 + foot ss) m)) ∧ Below w.heap.size w w' := by
  cases m with
  | true => exact c17_batch ss bb br hn hs w hbl hB.1 hB.2
  | false => exact (c17_prop _ w).mono fun e w' ⟨h1, h2⟩ => ⟨h1, h2 ▸ Below.refl _ _⟩

/-- The joiner in block bj holds es. -/
def JAt (w : World) (bj bb : Nat) (bw : Int) (es : List (Int × Bool)) : Prop :=
  ∃ ao cap, w.cell? ⟨bj, 8, none⟩ = some (.slice ao es.length cap) ∧ HeldAt w bj bb ao cap es ∧ w.cell? ⟨bj, 9, none⟩ = some (.int .i64 (sumW bw es)) ∧ w.frozen? ⟨bj, 8, none⟩ = false ∧ w.frozen? ⟨bj, 9, none⟩ = false

theorem HeldAt.gt_lo {w : World} {lo bb : Nat} {ao : Option Addr} {cap : Nat} {es : List (Int × Bool)} (h : HeldAt w lo bb ao cap es) : ∀ a, ao = some a → lo < a.block := fun a e => by
  subst e; exact h.lt.1
theorem HeldAt.ne_lo {w : World} {lo bb : Nat} {ao : Option Addr} {cap : Nat} {es : List (Int × Bool)} (h : HeldAt w lo bb ao cap es) : some lo ≠ ao.map (·.block) := by
  cases ao with
  | none => simp
  | some a => have := h.lt.1; simp; omega
theorem HeldAt.ne_size {w : World} {lo bb : Nat} {ao : Option Addr} {cap : Nat} {es : List (Int × Bool)} (h : HeldAt w lo bb ao cap es) : some w.heap.size ≠ ao.map (·.block) := by
  cases ao with
  | none => simp
  | some a => have := h.lt.2; simp; omega

theorem grown2_cell {w w1 : World} {X Y : Obj} {row : Option Nat} (hg : ((w.alloc X).alloc Y).drew.grownBy w1 row) {p : Addr} (h : p.block < w.heap.size) (hne : some p.block ≠ row) : w1.cell? p = w.cell? p := by
  rw [World.cell?_of_block (hg.block p.block (by show _ < ((w.heap.push X).push Y).size; simp; omega) hne)]
  have hb : Below w.heap.size w ((w.alloc X).alloc Y).drew := (((Below.refl _ _).alloc (Nat.le_refl _) _).alloc (by simp) _).drew
  exact hb.cell h
theorem grown2_frozen {w w1 : World} {X Y : Obj} {row : Option Nat} (hg : ((w.alloc X).alloc Y).drew.grownBy w1 row) {p : Addr} (h : p.block < w.heap.size) (hne : some p.block ≠ row) : w1.frozen? p = w.frozen? p := by
  rw [World.frozen?_of_block (hg.block p.block (by show _ < ((w.heap.push X).push Y).size; simp; omega) hne)]
  have hb : Below w.heap.size w ((w.alloc X).alloc Y).drew := (((Below.refl _ _).alloc (Nat.le_refl _) _).alloc (by simp) _).drew
  exact hb.frozen h
theorem grown2_box {w w1 : World} {cs : Array Value} {t : TypeId} {Y : Obj} {row : Option Nat} (hg : ((w.alloc (.cells cs t)).alloc Y).drew.grownBy w1 row) (hne : some w.heap.size ≠ row) (j : Nat) : w1.cell? ⟨w.heap.size, j, none⟩ = cs[j]? := by
  rw [World.cell?_of_block (a := ⟨w.heap.size, j, none⟩) (hg.block w.heap.size (by show _ < ((w.heap.push _).push Y).size; simp; omega) hne)]
  show ((w.alloc (.cells cs t)).alloc Y).cell? ⟨w.heap.size, j, none⟩ = _
  rw [World.cell?_alloc_past _ _ _ (by simp), World.cell?_alloc_at _ _ _ _ rfl]

/-- Mid-way through hold: the joiner holds es, its counter says hb. -/
structure Mid (w w' : World) (bj bb : Nat) (es : List (Int × Bool)) (hb : Int) : Prop where
  below : Below bj w w'
  lt : w.heap.size < w'.heap.size
  held : ∃ ao cap, w'.cell? ⟨bj, 8, none⟩ = some (.slice ao es.length cap) ∧ HeldAt w' bj bb ao cap es
  bytes : w'.cell? ⟨bj, 9, none⟩ = some (.int .i64 hb)
  f8 : w'.frozen? ⟨bj, 8, none⟩ = false
  f9 : w'.frozen? ⟨bj, 9, none⟩ = false

theorem mid_first {w w1 : World} {bj bb : Nat} {f : Int} {m : Bool} {es : List (Int × Bool)} {ao : Option Addr} {cap cap' g off : Nat} {hb : Int} {Y : Obj} (hjl : bj < w.heap.size)
    (hgrow : ((w.alloc (.cells #[.int .i64 f, .iface (mt m) (mx bb m)] 59)).alloc Y).drew.grownBy w1 (ao.map (·.block))) (hne8 : some bj ≠ ao.map (·.block)) (hneb : some w.heap.size ≠ ao.map (·.block))
    (hlo : ∀ a, ao = some a → bj < a.block) (hH1 : HeldAt w1 bj bb (some ⟨g, off, none⟩) cap' (es ++ [(f, m)])) (hc8 : w.cell? ⟨bj, 8, none⟩ = some (.slice ao es.length cap)) (hc9 : w.cell? ⟨bj, 9, none⟩ = some (.int .i64 hb)) (hf8 : w.frozen? ⟨bj, 8, none⟩ = false) (hf9 : w.frozen? ⟨bj, 9, none⟩ = false) :
    Mid w (w1.setCell ⟨bj, 8, none⟩ (.slice (some ⟨g, off, none⟩) (es.length + 1) cap')) bj bb (es ++ [(f, m)]) hb ∧
      (w1.setCell ⟨bj, 8, none⟩ (.slice (some ⟨g, off, none⟩) (es.length + 1) cap')).cell? ⟨w.heap.size, 1, none⟩ = some (.iface (mt m) (mx bb m)) := by
  have hbe : Below w.heap.size w ((w.alloc (.cells #[.int .i64 f, .iface (mt m) (mx bb m)] 59)).alloc Y).drew := (((Below.refl _ _).alloc (Nat.le_refl _) _).alloc (by simp) _).drew
  have hsz : w.heap.size + 2 ≤ w1.heap.size := by
    have h1 := hgrow.size
    have h2 : ((w.alloc (.cells #[.int .i64 f, .iface (mt m) (mx bb m)] 59)).alloc Y).drew.heap.size = w.heap.size + 2 := by simp
    omega
  have hbl : Below bj w w1 := by
    refine (hbe.mono (by omega)).trans ⟨hgrow.os, hgrow.tape, hgrow.output, hgrow.size, fun k hk => hgrow.block k ?_ ?_⟩
    · simp; omega
    · intro e
      cases ao with
      | none => cases e
      | some a =>
        simp at e
        subst e
        have := hlo a rfl
        omega
  refine ⟨⟨hbl.setCell (Nat.le_refl _) _, by simp [World.setCell]; omega, ⟨_, cap', ?_, hH1.setCell (Nat.le_refl _) _⟩, ?_, ?_, ?_⟩, ?_⟩
  · rw [World.cell?_setCell_same _ _ _ ((grown2_cell hgrow hjl hne8).trans hc8)]; simp
  · rw [World.cell?_setCell_other _ _ _ _ (by simp), grown2_cell (p := ⟨bj, 9, none⟩) hgrow hjl hne8]; exact hc9
  · rw [World.frozen?_setCell, grown2_frozen (p := ⟨bj, 8, none⟩) hgrow hjl hne8]; exact hf8
  · rw [World.frozen?_setCell, grown2_frozen (p := ⟨bj, 9, none⟩) hgrow hjl hne8]; exact hf9
  · rw [World.cell?_setCell_other _ _ _ _ (by simp), grown2_box hgrow hneb]; rfl

theorem Mid.of_below {w w1 w2 : World} {bj bb : Nat} {es : List (Int × Bool)} {hb : Int} (h : Mid w w1 bj bb es hb) (hjc : bj < w1.heap.size) (hbl : Below w1.heap.size w1 w2) : Mid w w2 bj bb es hb := by
  obtain ⟨ao, cap, h1, h2⟩ := h.held
  exact ⟨h.below.trans (hbl.mono (by omega)), by have := h.lt; have := hbl.size; omega, ⟨ao, cap, (hbl.cell (p := ⟨bj, 8, none⟩) hjc).trans h1, h2.below hbl⟩, (hbl.cell (p := ⟨bj, 9, none⟩) hjc).trans h.bytes,
    (hbl.frozen (p := ⟨bj, 8, none⟩) hjc).trans h.f8, (hbl.frozen (p := ⟨bj, 9, none⟩) hjc).trans h.f9⟩
theorem Mid.setBytes {w w1 : World} {bj bb : Nat} {es : List (Int × Bool)} {hb : Int} (h : Mid w w1 bj bb es hb) (x : Int) : Mid w (w1.setCell ⟨bj, 9, none⟩ (.int .i64 x)) bj bb es x := by
  obtain ⟨ao, cap, h1, h2⟩ := h.held
  exact ⟨h.below.setCell (Nat.le_refl _) _, by simp [World.setCell]; exact h.lt, ⟨ao, cap, by rw [World.cell?_setCell_other _ _ _ _ (by simp)]; exact h1, h2.setCell (Nat.le_refl _) _⟩,
    World.cell?_setCell_same _ _ _ h.bytes, by rw [World.frozen?_setCell]; exact h.f8, by rw [World.frozen?_setCell]; exact h.f9⟩

theorem mid_second {w w1 w2 : World} {bj bb : Nat} {es : List (Int × Bool)} {hb x y : Int} (h : Mid w w1 bj bb es hb) (hjc : bj < w1.heap.size) (hb2 : Below w1.drew.heap.size w1.drew w2) (hxy : y = x) :
    Mid w (w2.setCell ⟨bj, 9, none⟩ (.int .i64 y)) bj bb es x := by
  subst hxy
  exact (h.of_below hjc (w2 := w2) ⟨hb2.os, hb2.tape, hb2.output, hb2.size, hb2.block⟩).setBytes _

theorem wt_bd (ss : List ByteArray) (m : Bool) (hs : foot ss ≤ 16777216) : 64 ≤ wt (64 + foot ss) m ∧ wt (64 + foot ss) m ≤ 16777280 := by
  have := foot_nonneg ss
  cases m <;> simp [wt] <;> omega
theorem sumW_cons (bw : Int) (e : Int × Bool) (es : List (Int × Bool)) : sumW bw (e :: es) = wt bw e.2 + sumW bw es := by simp [sumW]
theorem sumW_snoc (bw : Int) (e : Int × Bool) (es : List (Int × Bool)) : sumW bw (es ++ [e]) = sumW bw es + wt bw e.2 := by simp [sumW]
theorem sumW_len (ss : List ByteArray) (es : List (Int × Bool)) (hs : foot ss ≤ 16777216) : 0 ≤ sumW (64 + foot ss) es ∧ sumW (64 + foot ss) es ≤ es.length * 16777280 := by
  induction es with
  | nil => simp [sumW]
  | cons e r ih =>
    have := wt_bd ss e.2 hs
    rw [sumW_cons]
    simp only [List.length_cons]
    omega
theorem sumW_bd (ss : List ByteArray) (es : List (Int × Bool)) (hs : foot ss ≤ 16777216) (he : es.length ≤ 4096) : 0 ≤ sumW (64 + foot ss) es ∧ sumW (64 + foot ss) es ≤ 68719738880 := by
  have := sumW_len ss es hs
  omega

/-- The first envelope of those that are held. -/
theorem Mid.head {w w' : World} {bj bb : Nat} {e : Int × Bool} {r : List (Int × Bool)} {hb : Int} (h : Mid w w' bj bb (e :: r) hb) :
    ∃ g off cap, w'.cell? ⟨bj, 8, none⟩ = some (.slice (some ⟨g, off, none⟩) (r.length + 1) cap) ∧ w'.cell? ⟨g, off, none⟩ = some (.int .i64 e.1) ∧ w'.cell? ⟨g, off + 1, none⟩ = some (.iface (mt e.2) (mx bb e.2)) ∧
      w'.frozen? ⟨g, off, none⟩ = false ∧ w'.frozen? ⟨g, off + 1, none⟩ = false ∧ bj < g ∧ g < w'.heap.size ∧ r.length + 1 ≤ cap ∧ HeldAt w' bj bb (some ⟨g, off, none⟩) cap (e :: r) := by
  obtain ⟨ao, cap, h1, h2⟩ := h.held
  have h2' := h2
  rcases h2 with ⟨_, _, h2⟩ | ⟨g, off, F, rfl, hg, hc, hrow, hF⟩
  · cases h2
  · have h0 := hF 0 (by simp)
    simp only [List.length_cons] at hc
    simp at h0
    refine ⟨g, off, cap, by simpa using h1, ?_, ?_, hrow.frozen _, hrow.frozen _, hg, hrow.lt, hc, h2'⟩
    · rw [hrow.cell (by omega), h0.1]
    · rw [hrow.cell (by omega), h0.2]

/-- The oldest is dropped. -/
theorem mid_drop {w w' : World} {bj bb g off cap : Nat} {e e1 : Int × Bool} {r : List (Int × Bool)} {hb : Int} {x y : Value} (h : Mid w w' bj bb (e :: e1 :: r) hb)
    (h8 : w'.cell? ⟨bj, 8, none⟩ = some (.slice (some ⟨g, off, none⟩) (r.length + 1 + 1) cap)) (hH : HeldAt w' bj bb (some ⟨g, off, none⟩) cap (e :: e1 :: r)) :
    Mid w (((w'.setCell ⟨g, off, none⟩ x).setCell ⟨g, off + 1, none⟩ y).setCell ⟨bj, 8, none⟩ (.slice (some ⟨g, off + 2, none⟩) (r.length + 1) (cap - 1))) bj bb (e1 :: r) hb := by
  have hlt := hH.lt
  simp only at hlt
  rcases hH with ⟨hx, _⟩ | ⟨g', off', F, h0, hg, hc, hrow, hF⟩
  · cases hx
  cases h0
  simp only [List.length_cons] at hc
  have hrow2 := ((hrow.set off x).set (off + 1) y).setOther (a := ⟨bj, 8, none⟩) (by simp; omega) (.slice (some ⟨g, off + 2, none⟩) (r.length + 1) (cap - 1))
  have e1' : off + cap * 2 = (off + 2) + (cap - 1) * 2 := by omega
  refine ⟨((h.below.setCell (by simp; omega) _).setCell (by simp; omega) _).setCell (Nat.le_refl _) _, by simp [World.setCell]; exact h.lt, ⟨_, cap - 1, ?_, .inr ⟨g, off + 2, _, rfl, hg, by simp; omega, e1' ▸ hrow2, fun i hi => ?_⟩⟩, ?_, ?_, ?_⟩
  · rw [World.cell?_setCell_same _ _ _ (u := .slice (some ⟨g, off, none⟩) (r.length + 1 + 1) cap)]
    · simp
    · rw [World.cell?_setCell_other _ _ _ _ (by simp), World.cell?_setCell_other _ _ _ _ (by simp)]; exact h8
  · have := hF (i + 1) (by simpa using hi)
    simp only [List.getElem_cons_succ] at this
    rw [if_neg (by omega), if_neg (by omega), if_neg (by omega), if_neg (by omega)]
    have e2 : off + 2 + i * 2 = off + (i + 1) * 2 := by omega
    rw [e2]
    exact this
  · rw [World.cell?_setCell_other _ _ _ _ (by simp), World.cell?_setCell_other _ _ _ _ (by simp), World.cell?_setCell_other _ _ _ _ (by simp)]; exact h.bytes
  · rw [World.frozen?_setCell, World.frozen?_setCell, World.frozen?_setCell]; exact h.f8
  · rw [World.frozen?_setCell, World.frozen?_setCell, World.frozen?_setCell]; exact h.f9

/-- Dropping the oldest while they weigh too much. -/
def trimL (bw : Int) : List (Int × Bool) → List (Int × Bool)
  | [] => []
  | [e] => [e]
  | e :: f :: r => if 67108864 < sumW bw (e :: f :: r) then trimL bw (f :: r) else e :: f :: r

theorem trimL_one (bw : Int) (r : List (Int × Bool)) (h : ¬ 1 < r.length) : trimL bw r = r := by
  match r, h with
  | [], _ => rfl
  | [_], _ => rfl
  | _ :: _ :: _, h => simp at h
theorem trimL_small (bw : Int) (r : List (Int × Bool)) (h : ¬ 67108864 < sumW bw r) : trimL bw r = r := by
  match r, h with
  | [], _ => rfl
  | [_], _ => rfl
  | _ :: _ :: _, h => rw [trimL, if_neg h]
theorem trimL_drop (bw : Int) (e f : Int × Bool) (r : List (Int × Bool)) (h : 67108864 < sumW bw (e :: f :: r)) : trimL bw (e :: f :: r) = trimL bw (f :: r) := by
  rw [trimL, if_pos h]
theorem Mid.jat {w w' : World} {bj bb : Nat} {bw : Int} {r r' : List (Int × Bool)} (h : Mid w w' bj bb r (sumW bw r)) (e : r' = r) : JAt w' bj bb bw r' := by
  subst e
  obtain ⟨ao, cap, h1, h2⟩ := h.held
  exact ⟨ao, cap, h1, h2, h.bytes, h.f8, h.f9⟩

set_option maxRecDepth 100000 in
set_option maxHeartbeats 3200000 in
theorem hold1 (ss : List ByteArray) (bj bb br : Nat) (f : Int) (m : Bool) (es : List (Int × Bool)) (hn : ss.length ≤ 65536) (hs : foot ss ≤ 16777216) (he : es.length ≤ 4096) (w : World) (hjl : bj < w.heap.size) (hbb : bb < bj) (hbr : br < bj) (hB : BatchAt w bb br ss) (hJ : JAt w bj bb (64 + foot ss) es) :
    Calls Try.prog 16 #[.pointer (some ⟨bj, 0, none⟩), .agg #[.int .i64 f, .iface (mt m) (mx bb m)]] w fun e w' => e = .returned (.tuple #[]) ∧ JAt w' bj bb (64 + foot ss) (trimL (64 + foot ss) (es ++ [(f, m)])) ∧ Below bj w w' ∧ bj < w'.heap.size := by
  obtain ⟨ao, cap, hc8, hH, hc9, hf8, hf9⟩ := hJ
  have hne8 : some bj ≠ ao.map (·.block) := hH.ne_lo
  have hneb : some w.heap.size ≠ ao.map (·.block) := hH.ne_size
  go_enter Try.func16, Try.ntmps16
  go_wp2_with fail
  go_cut [] (fun wc => Mid w wc bj bb (es ++ [(f, m)]) (sumW (64 + foot ss) es) ∧ wc.cell? ⟨w.heap.size, 1, none⟩ = some (.iface (mt m) (mx bb m)))
  case first =>
    go_region_law (refine step_append_env (by rfl) _ _ (by rfl) bj bb ao cap es _ (by rfl) rfl (((hH.alloc _).alloc _).drew) (by simp; omega) he (w.heap.size + 1) f m (by rfl) (by simp) (by simp) ?_; intro g off cap' w1 hH1 hgrow; have hf8' : w1.frozen? ⟨bj, 8, none⟩ = false := (grown2_frozen hgrow hjl hne8).trans hf8; have hc8' : w1.cell? ⟨bj, 8, none⟩ = some (.slice ao es.length cap) := (grown2_cell hgrow hjl hne8).trans hc8)
    all_goals
      go_wp2_with fail
      go_meet
      exact mid_first hjl hgrow hne8 hneb hH.gt_lo hH1 hc8 hc9 hf8 hf9
  case rest =>
    obtain ⟨hM, hbox⟩ := hcut
    have hB2 : BatchAt wc bb br ss := hB.below hM.below hbb hbr
    have hbrc : br < wc.heap.size := by have := hM.lt; omega
    have hjc : bj < wc.heap.size := by have := hM.lt; omega
    have hc9w := hM.bytes
    have hf9w := hM.f9
    have n0 := wt_bd ss m hs
    have n1 := sumW_bd ss es hs he
    go_wp2_with fail
    go_cut [] (fun w2 => Mid w w2 bj bb (es ++ [(f, m)]) (sumW (64 + foot ss) es + wt (64 + foot ss) m))
    case first =>
      go_region_with ((go_at_call 17; refine (c17_any ss bb br m hn hs wc.drew hbrc hB2).mono ?_; rintro e w2 ⟨rfl, hb2⟩; have hc9' : w2.cell? ⟨bj, 9, none⟩ = some (.int .i64 (sumW (64 + foot ss) es)) := (hb2.cell (p := ⟨bj, 9, none⟩) hjc).trans hc9w; have hf9' : w2.frozen? ⟨bj, 9, none⟩ = false := (hb2.frozen (p := ⟨bj, 9, none⟩) hjc).trans hf9w))
      all_goals
        go_wp2_with fail
        go_meet
        exact mid_second hM hjc hb2 (IntWalk.i64_in _ (by omega))
    case rest =>
      have eS : sumW (64 + foot ss) es + wt (64 + foot ss) m = sumW (64 + foot ss) (es ++ [(f, m)]) := (sumW_snoc (64 + foot ss) (f, m) es).symm
      rw [eS] at hcut
      clear eS hB2 hbrc hjc hc9w hf9w n0 n1 hbox hM
      go_wp2_with fail
      go_loopg [] (es.length + 1) (fun k wr => ∃ r : List (Int × Bool), r.length = k ∧ r.length ≤ 4097 ∧ r ≠ [] ∧ trimL (64 + foot ss) r = trimL (64 + foot ss) (es ++ [(f, m)]) ∧ Mid w wr bj bb r (sumW (64 + foot ss) r))
      case atStart => exact ⟨es ++ [(f, m)], by simp, by simp; omega, by simp, rfl, hcut⟩
      case round =>
        obtain ⟨r, rfl, hlen, hne, htr, hM⟩ := hrel
        have htr' : Hid _ := htr
        clear htr
        have hr9 := hM.bytes
        by_cases h1 : 67108864 < sumW (64 + foot ss) r
        · by_cases h2 : 1 < r.length
          · obtain ⟨⟨f0, m0⟩, e1, r1, rfl⟩ : ∃ e0 e1 r1, r = e0 :: e1 :: r1 := by
              match r, h2 with
              | e0 :: e1 :: r1, _ => exact ⟨e0, e1, r1, rfl⟩
            obtain ⟨g, off, cap1, hr8, hr00, hr01, hfz0, hfz1, hgj, hgl, hcap, _⟩ := hM.head
            have hB2 : BatchAt wr bb br ss := hB.below hM.below hbb hbr
            have hbrc : br < wr.heap.size := by have := hM.lt; omega
            have hjc : bj < wr.heap.size := by have := hM.lt; omega
            have hf9w := hM.f9
            have n0 := wt_bd ss m0 hs
            have n1 := sumW_bd ss (e1 :: r1) hs (by simp at hlen ⊢; omega)
            have n2 : Hid (sumW (64 + foot ss) ((f0, m0) :: e1 :: r1) = wt (64 + foot ss) m0 + sumW (64 + foot ss) (e1 :: r1)) := sumW_cons _ _ _
            have n3 : sumW (64 + foot ss) ((f0, m0) :: e1 :: r1) ≤ 137438953472 := by rw [n2.out]; omega
            go_wp2_with fail
            go_cut [] (fun w2 => Mid w w2 bj bb ((f0, m0) :: e1 :: r1) (sumW (64 + foot ss) (e1 :: r1)))
            case first =>
              go_region_with ((go_at_call 17; refine (c17_any ss bb br m0 hn hs wr.drew hbrc hB2).mono ?_; rintro e w2 ⟨rfl, hb2⟩; have hc9' : w2.cell? ⟨bj, 9, none⟩ = some (.int .i64 (sumW (64 + foot ss) ((f0, m0) :: e1 :: r1))) := (hb2.cell (p := ⟨bj, 9, none⟩) hjc).trans hr9; have hf9' : w2.frozen? ⟨bj, 9, none⟩ = false := (hb2.frozen (p := ⟨bj, 9, none⟩) hjc).trans hf9w))
              all_goals
                go_wp2_with fail
                go_meet
                exact mid_second hM hjc hb2 ((IntWalk.i64_in _ (by omega)).trans (by rw [n2.out]; omega))
            case rest =>
              clear hr8 hr00 hr01 hfz0 hfz1 hgj hgl hcap hB2 hbrc hjc hf9w hr9
              obtain ⟨g, off, cap1, hr8, hr00, hr01, hfz0, hfz1, hgj, hgl, hcap, hHH⟩ := hcut.head
              have hf8w := hcut.f8
              simp only [List.length_cons] at hr8 hcap
              have hgne : (g == bj) = false := beq_eq_false_iff_ne.2 (by omega)
              go_wp2_with fail
              go_roundg (e1 :: r1).length
              case measure => simp
              case rel =>
                refine ⟨e1 :: r1, rfl, by simp at hlen ⊢; omega, by simp, by rw [← htr'.out, trimL_drop _ _ _ _ h1], ?_⟩
                exact mid_drop hcut hr8 hHH
          · obtain ⟨ao1, cap1, hr8, hrH⟩ := hM.held
            go_wp2_with fail
            go_end0
            exact ⟨rfl, hM.jat (htr'.out.symm.trans (trimL_one _ _ (by omega))), hM.below, by have := hM.lt; omega⟩
        · obtain ⟨ao1, cap1, hr8, hrH⟩ := hM.held
          go_wp2_with fail
          go_end0
          exact ⟨rfl, hM.jat (htr'.out.symm.trans (trimL_small _ _ (by omega))), hM.below, by have := hM.lt; omega⟩
end Go.Proofs.Qxb6616082a
