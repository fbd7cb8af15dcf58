/-
  THE ROW PROVED, AND THE TIED CARD 'Rows.FnWaitCommittedStoppedTwiceCardSaid'.
-/
import Derived.Test.Qxb6616082aDoorLaw
import Derived.Test.Qxb6616082aDoorTie
import Derived.Test.Qxb6616082aDoorCards
import Derived.ProofKit
import Derived.OpenShut
import Derived.ChangeOld
import Derived.Below
import Derived.LaidMore
import Derived.Stop.Joined
import Derived.Stop.LaidErr
import Derived.SevenTiedAt
namespace Go.Proofs.Qxb6616082aDoor
open Go.ChangeShapes Go.WideShapes Go.ChangeAt Go.RowKit
open Go.Extern.Stop Go.Stop Go.Extern

theorem own : ownKnob Tryd.prog.godebug = none := by kernel_rfl
theorem laidOut : laidOutB Tryd.prog = true := by kernel_rfl
theorem gE : Tryd.prog.globalNamed (Rows.fnWaitCommittedStoppedTwiceSpec.vars.headD default) = some 0 := by kernel_rfl
theorem gET : (Tryd.prog.globals[0]?).map (·.type) = some 99 := by kernel_rfl
theorem cells267 : Tryd.prog.cellsOf 267 = 1 := by kernel_rfl
theorem cells9 : Tryd.prog.cellsOf 9 = 1 := by kernel_rfl
/-- The listed datum's type name. -/
def eTy : String := match (Rows.laid_example_com_foreorder_foreorder_ErrClosed : DataW Unit) with | .iface n _ => n | _ => default
def eBare : String := "errors.errorString"
theorem row144 (u : TypeId) (h : Tryd.prog.typeName? 3 u = some eTy) : u = 144 :=
  typeName_ptr_named (nm := eBare) (by kernel_rfl) (by kernel_rfl) (by decide) u h

/-- The door's own heap meets the condition. -/
theorem door_met (os : Os) (args : Array Value) : laidMetH Tryd.prog Rows.fnWaitCommittedStoppedTwiceRow.laid ((World.doorLaid Tryd.prog 400 os).forCall (fun _ _ => 0) ⟨#[], args, []⟩).memory :=
  laidMetH_of_parts3 (fuel := 8) (laidMet_of_run' 8 (by kernel_rfl) (by kernel_rfl)) (by kernel_rfl) (by kernel_rfl)

theorem var?_under {P : Program} {B g : Nat} {W W' : World} {n : String} {cs : Array Value} (h : Below B W W') (hg : P.globalNamed n = some g) (hgB : g < B) (hv : W.var? P n = some cs) : W'.var? P n = some cs := by
  unfold World.var? at hv ⊢
  simp only [hg, Option.bind_some] at hv ⊢
  rw [h.block g hgB]
  exact hv

theorem rowAt_of {W : World} {a : Addr} {n : Nat} {f : Nat → Value} (h : ∀ i, i < n → W.cell? (a.add i) = some (f i)) : RowAt W (some a) n f := by
  intro i hi
  have hc := h i hi
  obtain ⟨b, off, spot⟩ := a
  have hspot : spot = none := by
    have h0 := World.cell?_spot (h 0 (by omega))
    simpa [Addr.add] using h0
  subst hspot
  have hadd : (⟨b, off, none⟩ : Addr).add i = ⟨b, off + i, none⟩ := by unfold Addr.add; split <;> simp_all
  exact ⟨b, off, rfl, by rw [← hadd]; exact hc⟩

theorem ints_rowAt {H : Type} {enc : TypeId × Value → H} {W : World} {base : Nat} {sp : Nat → Bool} {held : Bool} {a0 : Option Addr} {len cap : Nat} {d : DataW H} {p : List MemPlace}
    (h : DataW.Trod enc Tryd.prog W base sp held 23 (.slice a0 len cap) d p) : ∃ zs : List Int, zs.length = len ∧ RowAt W a0 zs.length (fun i => .int .u64 (zs.getD i 0)) := by
  obtain ⟨fuel, hf⟩ := h
  rcases open_ints Tryd.underlying23 Tryd.underlying22 (by kernel_rfl) hf with ⟨hcs, _⟩ | ⟨x, l, c, zs, hcs, _, hl, hm, hz, _, hcell, hwz⟩
  · simp [Value.cells] at hcs
    obtain ⟨rfl, rfl, rfl⟩ := hcs
    exact ⟨[], rfl, fun i hi => by simp at hi⟩
  · simp [Value.cells] at hcs
    obtain ⟨rfl, rfl, rfl⟩ := hcs
    have hlz : len ≤ zs.length := by split at hz <;> omega
    have hle : (zs.take len).length = len := by rw [List.length_take]; omega
    refine ⟨zs.take len, hle, ?_⟩
    rw [hle]
    refine rowAt_of fun i hi => ?_
    rw [hcell i (by omega)]
    simp [hi]

set_option maxRecDepth 100000 in
theorem lifted (os : Os) (started : os.Started) (H : Type) (enc : TypeId × Value → H) :
    ReturnsInHanded {} Tryd.checked os 3 .any (fun w args => (Rows.fnWaitCommittedStoppedTwiceSpec.pre enc Tryd.prog Tryd.f3 [] false w args ∧ laidMetH Tryd.prog Rows.fnWaitCommittedStoppedTwiceRow.laid w) ∧ sizedMet enc Tryd.prog Tryd.f3 (OpenSpec.ofChange Rows.fnWaitCommittedStoppedTwiceSpec) false w args)
      (Rows.fnWaitCommittedStoppedTwiceSpec.post enc Tryd.prog Tryd.f3 false true false false) := by
  refine returnsInHanded_of_change_and (C := Tryd.checked) (X := fun w _ => laidMetH Tryd.prog Rows.fnWaitCommittedStoppedTwiceRow.laid w) (fun _ _ _ hh h => h.of_heap hh) own started (by kernel_rfl) Tryd.func3
    (ChangeSpec.witness_shaped (enc := enc) (C := Tryd.checked) (os := os) (X := fun w _ => laidMetH Tryd.prog Rows.fnWaitCommittedStoppedTwiceRow.laid w) false (World.doorLaid Tryd.prog 400 os) #[.int .u64 0, .int .u64 0, .slice none 0 0] 8 rfl (World.shaped_of_RefB (by kernel_rfl) (by kernel_rfl)) (by kernel_rfl) (by kernel_rfl) (by kernel_rfl) (door_met os _)) ?_
  intro W base args ds gs before hval0 hW _ _ hL _
  have hval : ∀ (j : Nat) t v, Tryd.f3.params[j]? = some t → args[j]? = some v → Value.okWide Tryd.prog W .any base t v := hval0
  have hW' := hW
  obtain ⟨p, q, hA0, hV0, rfl, hfz, hnd⟩ := hW
  have hA : DataW.TrodAll enc Tryd.prog W 0 (fun _ => true) true Tryd.f3.params.toList args.toList ds p := hA0
  have hV : DataW.TrodVars enc Tryd.prog W (fun _ => true) [Rows.fnWaitCommittedStoppedTwiceSpec.vars.headD default] gs q := hV0
  rw [Tryd.params3] at hA hval
  obtain ⟨v0, vs0, d0, ds0, p0, q0, hargs, rfl, rfl, h0, r0⟩ := trodAll_cons hA
  obtain ⟨v1, vs1, d1, ds1, p1, q1, rfl, rfl, rfl, h1, r1⟩ := trodAll_cons r0
  obtain ⟨v2, vs2, d2, ds2, p2, q2, rfl, rfl, rfl, h2, r2⟩ := trodAll_cons r1
  obtain ⟨rfl, rfl, rfl⟩ := trodAll_nil r2
  obtain rfl : args = #[v0, v1, v2] := by cases args; simp_all
  obtain ⟨s, rfl, rfl, rfl, ws⟩ := open_int Tryd.underlying22 (hval 0 22 v0 rfl rfl) h0
  obtain ⟨t, rfl, rfl, rfl, wt⟩ := open_int Tryd.underlying22 (hval 1 22 v1 rfl rfl) h1
  obtain ⟨a2, len2, cap2, rfl⟩ := okWide_slice Tryd.underlying23 (hval 2 23 v2 rfl rfl)
  have lt2 : ∀ x ∈ p2, x.block < W.heap.size := by obtain ⟨m, hm⟩ := h2; exact DataW.trod_lt m _ _ _ hm
  obtain ⟨zs, rfl, w2⟩ := ints_rowAt h2
  have hL1 : laidMet Tryd.prog [(Rows.fnWaitCommittedStoppedTwiceSpec.vars.headD default, .iface eTy (.ptr (.agg [.lit (.string [102, 111, 114, 101, 111, 114, 100, 101, 114, 58, 32, 99, 108, 111, 115, 101, 100])])))] W := hL
  obtain ⟨aE, sE, hv1, _, _, _⟩ := laid_sentinel hL1 gE gET Tryd.underlying99 row144 Tryd.underlying144 Tryd.underlying267 rfl rfl Tryd.underlying9 cells267 cells9
  obtain ⟨rfl, rfl⟩ := hV.unique (vars_read1 enc gE gET Tryd.underlying99 hv1 trivial _)
  have hE : W.cell? ⟨0, 0, none⟩ = some (.iface 144 (.pointer (some aE))) := by simpa using World.var?_cell gE hv1 0
  have h0l := World.block_lt_of_cell? W _ hE
  clear hA0 hV0 hval0
  refine (walk3 s t a2 cap2 zs aE W hE w2).mono fun e W' ⟨he, bel⟩ => ?_
  subst he
  exact ⟨_, rfl, _, _, _, [], _, [.cell 0 0], hW', trodAll_mk1 (shut_bool Tryd.underlying4 _), (trodAll_cons_mk (shut_int Tryd.underlying22 ws) (trodAll_cons_mk (shut_int Tryd.underlying22 wt) (trodAll_cons_mk (Below.trod laidOut (by kernel_rfl) (of_decide_eq_true (by kernel_rfl)) h2 bel lt2) trodAll_mk0))), vars_read1 enc gE gET Tryd.underlying99 (var?_under bel gE h0l hv1) trivial _, bel.frame _, fun h => by cases h⟩

theorem row_holds : Rows.FnWaitCommittedStoppedTwiceSaid :=
  OpenClaim.holds_of_wide 3 Tryd.f3 rfl rfl rfl rfl rfl rfl rfl ⟨rfl, rfl, rfl, rfl, rfl⟩ rfl rfl rfl rfl rfl (by kernel_rfl) Tryd.func3 (by kernel_rfl)
    (of_decide_eq_true (by kernel_rfl)) (by unfold Func.isWrapper; rw [if_neg (of_decide_eq_false (by kernel_rfl))]; exact ⟨rfl, rfl⟩)
    (fun os started H enc _ => lifted os started H enc)

/-- ████ THE TIED CARD ████ -/
theorem card_proved : Rows.FnWaitCommittedStoppedTwiceCardSaid :=
  Claim7.holds_tied_plain_at .later [] [.sentinel] true (true, "214ed6860309042857aeab1f61c0fff80a8aacdf39cb54cc363397e188ef1088") true
    row_holds (fun _ h => by cases h) (by kernel_rfl) (fun _ h => by cases h) fnWaitCommittedStoppedTwice_row_tie rfl ⟨rfl, rfl⟩ (by kernel_rfl) rfl
    (fun f fn hf hfn => by
      obtain rfl : f = 3 := Option.some.inj ((show Tryd.prog.funcNamed Rows.fnWaitCommittedStoppedTwiceRow.func = some 3 by kernel_rfl).symm.trans hf) |>.symm
      obtain rfl : fn = Tryd.f3 := (Option.some.inj (Tryd.func3.symm.trans hfn)).symm
      exact ⟨by kernel_rfl, fun j t ht => by
        rw [Tryd.params3] at ht
        have h3 : t = 22 ∨ t = 23 := by
          rcases j with _ | _ | _ | j
          · left; simpa using ht.symm
          · left; simpa using ht.symm
          · right; simpa using ht.symm
          · simp at ht
        rcases h3 with rfl | rfl
        · exact (show Tryd.prog.wantsStandIn 22 = false by kernel_rfl)
        · exact (show Tryd.prog.wantsStandIn 23 = false by kernel_rfl)⟩)
    (by kernel_rfl)
end Go.Proofs.Qxb6616082aDoor
