/-
  The law 'the walk's site is not carried, the fork only on a path': the walk.
-/
import Derived.Test.Qxb6616088aBytes2
import Derived.Test.Qxb6616088aLike
import Derived.Test.Qxb6616088aEq
import Derived.Test.Qxb6616088aOf
namespace Go.Proofs.Qxb6616088a
open Go.RowKit

set_option maxRecDepth 100000 in
set_option maxHeartbeats 4000000 in
theorem law4_core (m : Msg) (s1 s2 : ByteArray) (n f g : Int) (M : Nat → Mem) (U : Nat → Int) (w : World) (hP : PathAt w m.pa m.pl M) (hA : AcksAt w m.aa m.al U) (hpn : m.pa = none → m.pl = 0) (han : m.aa = none → m.al = 0) :
    Calls Try.prog 4 #[.agg m.cells, .string s1, .string s2, .int .u64 n, .int .i64 f, .int .i64 g] w fun e w' => e = .returned (.bool true) ∧ Below w.heap.size w w' := by
  have q9 : m.cells[9]? = some (.slice m.pa m.pl m.pc) := rfl
  go_enter Try.func4, Try.ntmps4
  go_wp2_with (first | (refine wpList_box26 (m := m) rfl rfl rfl ?_) | (refine wpList_loadZ rfl rfl w.heap.size m rfl (heap_alloc_new w _) ?_))
  obtain ⟨w0, hw0⟩ : ∃ w0, w0 = w.alloc (.cells m.cells 26) := ⟨_, rfl⟩
  rw [← hw0]
  have z0 : MAt w0 w.heap.size 26 m := by rw [hw0]; exact heap_alloc_new w _
  have b0 : Below w.heap.size w w0 := by rw [hw0]; exact (Below.refl _ _).alloc (Nat.le_refl _) _
  replace hP := hP.below' b0
  replace hA := hA.below' b0
  clear hw0
  refine Calls.mono (c13_any m s1 s2 n f g M w0 hP) ?_
  rintro e w1 ⟨hsb, hb⟩
  obtain ⟨b, rfl⟩ := hsb
  have z1 := z0.below hb z0.lt
  have b1 := b0.trans (hb.mono b0.size)
  replace hP := hP.below' hb
  replace hA := hA.below' hb
  clear hb b0 z0
  cases b
  · go_wp2_with fail
    go_ret
    exact ⟨rfl, b1⟩
  go_wp2_with (first | (refine wpList_loadZ rfl rfl w.heap.size m rfl z1 ?_))
  refine Calls.mono (c8_any m _ M w1 hP) ?_
  rintro e w2 ⟨b, rfl, hsh, hb⟩
  have z2 := z1.below hb z1.lt
  have b2 := b1.trans (hb.mono b1.size)
  replace hP := hP.below' hb
  replace hA := hA.below' hb
  clear hb b1 z1
  cases b
  case true =>
    go_wp2_with fail
    go_ret
    exact ⟨rfl, b2⟩
  obtain ⟨hpl, hal⟩ := hsh rfl
  clear hsh
  go_wp2_with (first | (refine wpList_loadZ rfl rfl w.heap.size m rfl z2 ?_))
  refine Calls.mono (c10_any m M U w2 hpl hal hP hA hpn han) ?_
  rintro e w3 ⟨r1, rfl, L1, k1, wa1, fo1, P1, A1, hb⟩
  have z3 := z2.below hb z2.lt
  have b3 := b2.trans (hb.mono b2.size)
  replace hP := hP.below' hb
  replace hA := hA.below' hb
  clear hb b2 z2 
  go_wp2_with fail
  refine Calls.mono (c9_any r1 s1 n f w3) ?_
  rintro e w4 ⟨rfl, hb⟩
  have z4 := z3.below hb z3.lt
  have b4 := b3.trans (hb.mono b3.size)
  replace hP := hP.below' hb
  replace hA := hA.below' hb
  replace P1 := P1.below' hb
  replace A1 := A1.below' hb
  clear hb b3 z3 
  have Lp1 := L1.probe n f
  obtain ⟨w5, hw5⟩ : ∃ w5, w5 = (w4.alloc (.cells zeroMsg.cells 40)).setRow w4.heap.size (probe r1 n f).cells := ⟨_, rfl⟩
  have bs : Below w4.heap.size w4 w5 := by rw [hw5]; exact below_setRow ((Below.refl _ _).alloc (Nat.le_refl _) _) _ _ (Nat.le_refl _)
  have a_5 : MAt w5 w4.heap.size 40 (probe r1 n f) := by rw [hw5]; exact setRow_heap _ _ _ _ _ _ (heap_alloc_new w4 _)
  have zz := z4.below bs z4.lt
  rw [hw5] at zz
  go_wp2_with (first | (refine wpList_alloc40 rfl rfl ?_) | (refine wpList_storeM rfl rfl w4.heap.size (probe r1 n f) zeroMsg rfl rfl (heap_alloc_new w4 _) ?_) | (refine wpList_loadZ rfl rfl w.heap.size m rfl ?hr ?_; case hr => exact zz))
  rw [← hw5]
  clear zz hw5
  have z5 := z4.below bs z4.lt
  have b5 := b4.trans (bs.mono b4.size)
  replace hP := hP.below' bs
  replace hA := hA.below' bs
  replace P1 := P1.below' bs
  replace A1 := A1.below' bs
  clear bs b4 z4 
  refine Calls.mono (c10_any m M U w5 hpl hal hP hA hpn han) ?_
  rintro e w6 ⟨r2, rfl, L2, k2, wa2, fo2, P2, A2, hb⟩
  have z6 := z5.below hb z5.lt
  have b6 := b5.trans (hb.mono b5.size)
  replace hP := hP.below' hb
  replace hA := hA.below' hb
  replace P1 := P1.below' hb
  replace A1 := A1.below' hb
  have a_6 := a_5.below hb a_5.lt
  clear hb b5 z5 a_5
  go_wp2_with fail
  refine Calls.mono (c9_any r2 s2 n f w6) ?_
  rintro e w7 ⟨rfl, hb⟩
  have z7 := z6.below hb z6.lt
  have b7 := b6.trans (hb.mono b6.size)
  replace hP := hP.below' hb
  replace hA := hA.below' hb
  replace P1 := P1.below' hb
  replace A1 := A1.below' hb
  replace P2 := P2.below' hb
  replace A2 := A2.below' hb
  have a_7 := a_6.below hb a_6.lt
  clear hb b6 z6 a_6
  have Lp2 := L2.probe n f
  obtain ⟨w8, hw8⟩ : ∃ w8, w8 = (w7.alloc (.cells zeroMsg.cells 40)).setRow w7.heap.size (probe r2 n f).cells := ⟨_, rfl⟩
  have bs : Below w7.heap.size w7 w8 := by rw [hw8]; exact below_setRow ((Below.refl _ _).alloc (Nat.le_refl _) _) _ _ (Nat.le_refl _)
  have b_8 : MAt w8 w7.heap.size 40 (probe r2 n f) := by rw [hw8]; exact setRow_heap _ _ _ _ _ _ (heap_alloc_new w7 _)
  have zz := z7.below bs z7.lt
  rw [hw8] at zz
  go_wp2_with (first | (refine wpList_alloc40 rfl rfl ?_) | (refine wpList_storeM rfl rfl w7.heap.size (probe r2 n f) zeroMsg rfl rfl (heap_alloc_new w7 _) ?_) | (refine wpList_loadZ rfl rfl w.heap.size m rfl ?hr ?_; case hr => exact zz))
  rw [← hw8]
  clear zz hw8
  have z8 := z7.below bs z7.lt
  have b8 := b7.trans (bs.mono b7.size)
  replace hP := hP.below' bs
  replace hA := hA.below' bs
  replace P1 := P1.below' bs
  replace A1 := A1.below' bs
  replace P2 := P2.below' bs
  replace A2 := A2.below' bs
  have a_8 := a_7.below bs a_7.lt
  clear bs b7 z7 a_7
  refine Calls.mono (c10_any m M U w8 hpl hal hP hA hpn han) ?_
  rintro e w9 ⟨r3, rfl, L3, k3, wa3, fo3, P3, A3, hb⟩
  have z9 := z8.below hb z8.lt
  have b9 := b8.trans (hb.mono b8.size)
  replace hP := hP.below' hb
  replace hA := hA.below' hb
  replace P1 := P1.below' hb
  replace A1 := A1.below' hb
  replace P2 := P2.below' hb
  replace A2 := A2.below' hb
  have a_9 := a_8.below hb a_8.lt
  have b_9 := b_8.below hb b_8.lt
  clear hb b8 z8 a_8 b_8
  go_wp2_with fail
  refine Calls.mono (c9_any r3 s1 n g w9) ?_
  rintro e w10 ⟨rfl, hb⟩
  have z10 := z9.below hb z9.lt
  have b10 := b9.trans (hb.mono b9.size)
  replace hP := hP.below' hb
  replace hA := hA.below' hb
  replace P1 := P1.below' hb
  replace A1 := A1.below' hb
  replace P2 := P2.below' hb
  replace A2 := A2.below' hb
  replace P3 := P3.below' hb
  replace A3 := A3.below' hb
  have a_10 := a_9.below hb a_9.lt
  have b_10 := b_9.below hb b_9.lt
  clear hb b9 z9 a_9 b_9
  have Lp3 := L3.probe n g
  obtain ⟨w11, hw11⟩ : ∃ w11, w11 = (w10.alloc (.cells zeroMsg.cells 40)).setRow w10.heap.size (probe r3 n g).cells := ⟨_, rfl⟩
  have bs : Below w10.heap.size w10 w11 := by rw [hw11]; exact below_setRow ((Below.refl _ _).alloc (Nat.le_refl _) _) _ _ (Nat.le_refl _)
  have c_11 : MAt w11 w10.heap.size 40 (probe r3 n g) := by rw [hw11]; exact setRow_heap _ _ _ _ _ _ (heap_alloc_new w10 _)
  have zz := z10.below bs z10.lt
  rw [hw11] at zz
  have aa' := a_10.below bs a_10.lt
  rw [hw11] at aa'
  have cz9 := (zz.cell 9).trans q9
  have ka0 : (probe r1 n f).cells[0]? = some (.int .u8 4) := by show some (Value.int .u8 (probe r1 n f).k) = _; rw [probe_k]
  have kc0 : (probe r3 n g).cells[0]? = some (.int .u8 4) := by show some (Value.int .u8 (probe r3 n g).k) = _; rw [probe_k]
  by_cases hlp : 0 < m.pl
  · have hsame : (probe r1 n f).wa = (probe r2 n f).wa ∧ (probe r1 n f).fo = (probe r2 n f).fo := ⟨(probe_far L1 n f hlp).1.trans (probe_far L2 n f hlp).1.symm, (probe_far L1 n f hlp).2.trans (probe_far L2 n f hlp).2.symm⟩
    have ka15 : (probe r1 n f).cells[15]? = some (.int .u64 n) := by show some (Value.int .u64 (probe r1 n f).wa) = _; rw [(probe_far L1 n f hlp).1]
    have kc15 : (probe r3 n g).cells[15]? = some (.int .u64 n) := by show some (Value.int .u64 (probe r3 n g).wa) = _; rw [(probe_far L3 n g hlp).1]
    have ka16 : (probe r1 n f).cells[16]? = some (.int .u64 (IntKind.u64.wrap f)) := by show some (Value.int .u64 (probe r1 n f).fo) = _; rw [(probe_far L1 n f hlp).2]
    have kc16 : (probe r3 n g).cells[16]? = some (.int .u64 (IntKind.u64.wrap g)) := by show some (Value.int .u64 (probe r3 n g).fo) = _; rw [(probe_far L3 n g hlp).2]
    by_cases hfg : IntKind.u64.wrap f = IntKind.u64.wrap g
    · rw [hfg] at ka16
      go_wp2_with (first | (refine wpList_alloc40 rfl rfl ?_) | (refine wpList_storeM rfl rfl w10.heap.size (probe r3 n g) zeroMsg rfl rfl (heap_alloc_new w10 _) ?_) | (refine wpList_loadZ rfl rfl w.heap.size m rfl ?hr ?_; case hr => exact zz) | (refine wpList_loadM rfl rfl w4.heap.size (probe r1 n f) rfl ?hr ?_; case hr => exact aa'))
      rw [← hw11]
      clear zz aa' cz9 hw11
      have z12 := z10.below bs z10.lt
      have b12 := b10.trans (bs.mono b10.size)
      replace hP := hP.below' bs
      replace hA := hA.below' bs
      replace P1 := P1.below' bs
      replace A1 := A1.below' bs
      replace P2 := P2.below' bs
      replace A2 := A2.below' bs
      replace P3 := P3.below' bs
      replace A3 := A3.below' bs
      have a12 := a_10.below bs a_10.lt
      have e12 := b_10.below bs b_10.lt
      clear bs z10 b10 a_10 b_10
      have c12 := c_11
      clear c_11
      refine Calls.mono (c11_core (probe r1 n f) m M U n f w11 (probe_k _ _ _) Lp1 (fun h => probe_far L1 n f h) (fun h => ⟨(probe_near (r := r1) n f (by rw [L1.pl]; exact h)).1.trans wa1, (probe_near (r := r1) n f (by rw [L1.pl]; exact h)).2.trans fo1⟩) hpl hal hP hA (by rw [probe_pa, ← L1.pl]; exact P1) (by rw [probe_aa, ← L1.al]; exact A1)) ?_
      rintro e w13 ⟨rfl, hb⟩
      have b13 := b12.trans (hb.mono b12.size)
      have z13 := z12.below hb z12.lt
      have a13 := a12.below hb a12.lt
      have e13 := e12.below hb e12.lt
      have c13 := c12.below hb c12.lt
      replace hP := hP.below' hb
      replace hA := hA.below' hb
      replace P1 := P1.below' hb
      replace A1 := A1.below' hb
      replace P2 := P2.below' hb
      replace A2 := A2.below' hb
      replace P3 := P3.below' hb
      replace A3 := A3.below' hb
      clear hb b12 z12 a12 e12 c12
      go_wp2_with (first | (refine wpList_loadMg rfl (w4.heap.size) (probe r1 n f) rfl rfl a13 ?_) | (refine wpList_loadMg rfl (w7.heap.size) (probe r2 n f) rfl rfl e13 ?_))
      refine Calls.mono (c12_core (probe r1 n f) (probe r2 n f) M U w13 (like_eq Lp1 Lp2 ((probe_k _ _ _).trans (probe_k _ _ _).symm) hsame.1 hsame.2) (Lp1.pnil.trans Lp2.pnil.symm) (Lp1.anil.trans Lp2.anil.symm) (by rw [Lp2.pl]; exact hpl) (by rw [Lp2.al]; exact hal) (by rw [probe_pa, probe_pl]; exact P2) (by rw [probe_aa, probe_al]; exact A2) (by rw [probe_pa, probe_pl, L2.pl, ← L1.pl]; exact P1) (by rw [probe_aa, probe_al, L2.al, ← L1.al]; exact A1)) ?_
      rintro e w14 ⟨rfl, hb⟩
      have b14 := b13.trans (hb.mono b13.size)
      have z14 := z13.below hb z13.lt
      have a14 := a13.below hb a13.lt
      have c14 := c13.below hb c13.lt
      replace hP := hP.below' hb
      replace hA := hA.below' hb
      replace P1 := P1.below' hb
      replace A1 := A1.below' hb
      replace P2 := P2.below' hb
      replace A2 := A2.below' hb
      replace P3 := P3.below' hb
      replace A3 := A3.below' hb
      clear hb b13 z13 a13 c13
      go_wp2_with (first | (refine wpList_loadMg rfl (w10.heap.size) (probe r3 n g) rfl rfl c14 ?_) | (refine wpList_loadZg rfl w.heap.size m rfl rfl z14 ?_))
      refine Calls.mono (c14_core (probe r3 n g) m M U w14 Lp3.rest Lp3.pnil Lp3.anil hpl hal hP hA (by rw [probe_pa, ← L3.pl]; exact P3) (by rw [probe_aa, ← L3.al]; exact A3)) ?_
      rintro e w15 ⟨rfl, hb⟩
      have b15 := b14.trans (hb.mono b14.size)
      have a15 := a14.below hb a14.lt
      have c15 := c14.below hb c14.lt
      replace hP := hP.below' hb
      replace hA := hA.below' hb
      replace P1 := P1.below' hb
      replace A1 := A1.below' hb
      replace P2 := P2.below' hb
      replace A2 := A2.below' hb
      replace P3 := P3.below' hb
      replace A3 := A3.below' hb
      clear hb b14 a14 c14
      have ca0 := (a15.cell 0).trans ka0
      have ca15 := (a15.cell 15).trans ka15
      have ca16 := (a15.cell 16).trans ka16
      have cc0 := (c15.cell 0).trans kc0
      have cc15 := (c15.cell 15).trans kc15
      have cc16 := (c15.cell 16).trans kc16
      clear a15 c15 ka0 ka15 ka16 kc0 kc15 kc16 hP hA P1 A1 P2 A2 P3 A3
      go_wp2_with fail
      go_ret
      exact ⟨rfl, b15⟩
    · have hgf : ¬ IntKind.u64.wrap g = IntKind.u64.wrap f := fun h => hfg h.symm
      go_wp2_with (first | (refine wpList_alloc40 rfl rfl ?_) | (refine wpList_storeM rfl rfl w10.heap.size (probe r3 n g) zeroMsg rfl rfl (heap_alloc_new w10 _) ?_) | (refine wpList_loadZ rfl rfl w.heap.size m rfl ?hr ?_; case hr => exact zz) | (refine wpList_loadM rfl rfl w4.heap.size (probe r1 n f) rfl ?hr ?_; case hr => exact aa'))
      rw [← hw11]
      clear zz aa' cz9 hw11
      have z12 := z10.below bs z10.lt
      have b12 := b10.trans (bs.mono b10.size)
      replace hP := hP.below' bs
      replace hA := hA.below' bs
      replace P1 := P1.below' bs
      replace A1 := A1.below' bs
      replace P2 := P2.below' bs
      replace A2 := A2.below' bs
      replace P3 := P3.below' bs
      replace A3 := A3.below' bs
      have a12 := a_10.below bs a_10.lt
      have e12 := b_10.below bs b_10.lt
      clear bs z10 b10 a_10 b_10
      have c12 := c_11
      clear c_11
      refine Calls.mono (c11_core (probe r1 n f) m M U n f w11 (probe_k _ _ _) Lp1 (fun h => probe_far L1 n f h) (fun h => ⟨(probe_near (r := r1) n f (by rw [L1.pl]; exact h)).1.trans wa1, (probe_near (r := r1) n f (by rw [L1.pl]; exact h)).2.trans fo1⟩) hpl hal hP hA (by rw [probe_pa, ← L1.pl]; exact P1) (by rw [probe_aa, ← L1.al]; exact A1)) ?_
      rintro e w13 ⟨rfl, hb⟩
      have b13 := b12.trans (hb.mono b12.size)
      have z13 := z12.below hb z12.lt
      have a13 := a12.below hb a12.lt
      have e13 := e12.below hb e12.lt
      have c13 := c12.below hb c12.lt
      replace hP := hP.below' hb
      replace hA := hA.below' hb
      replace P1 := P1.below' hb
      replace A1 := A1.below' hb
      replace P2 := P2.below' hb
      replace A2 := A2.below' hb
      replace P3 := P3.below' hb
      replace A3 := A3.below' hb
      clear hb b12 z12 a12 e12 c12
      go_wp2_with (first | (refine wpList_loadMg rfl (w4.heap.size) (probe r1 n f) rfl rfl a13 ?_) | (refine wpList_loadMg rfl (w7.heap.size) (probe r2 n f) rfl rfl e13 ?_))
      refine Calls.mono (c12_core (probe r1 n f) (probe r2 n f) M U w13 (like_eq Lp1 Lp2 ((probe_k _ _ _).trans (probe_k _ _ _).symm) hsame.1 hsame.2) (Lp1.pnil.trans Lp2.pnil.symm) (Lp1.anil.trans Lp2.anil.symm) (by rw [Lp2.pl]; exact hpl) (by rw [Lp2.al]; exact hal) (by rw [probe_pa, probe_pl]; exact P2) (by rw [probe_aa, probe_al]; exact A2) (by rw [probe_pa, probe_pl, L2.pl, ← L1.pl]; exact P1) (by rw [probe_aa, probe_al, L2.al, ← L1.al]; exact A1)) ?_
      rintro e w14 ⟨rfl, hb⟩
      have b14 := b13.trans (hb.mono b13.size)
      have z14 := z13.below hb z13.lt
      have a14 := a13.below hb a13.lt
      have c14 := c13.below hb c13.lt
      replace hP := hP.below' hb
      replace hA := hA.below' hb
      replace P1 := P1.below' hb
      replace A1 := A1.below' hb
      replace P2 := P2.below' hb
      replace A2 := A2.below' hb
      replace P3 := P3.below' hb
      replace A3 := A3.below' hb
      clear hb b13 z13 a13 c13
      go_wp2_with (first | (refine wpList_loadMg rfl (w10.heap.size) (probe r3 n g) rfl rfl c14 ?_) | (refine wpList_loadZg rfl w.heap.size m rfl rfl z14 ?_))
      refine Calls.mono (c14_core (probe r3 n g) m M U w14 Lp3.rest Lp3.pnil Lp3.anil hpl hal hP hA (by rw [probe_pa, ← L3.pl]; exact P3) (by rw [probe_aa, ← L3.al]; exact A3)) ?_
      rintro e w15 ⟨rfl, hb⟩
      have b15 := b14.trans (hb.mono b14.size)
      have a15 := a14.below hb a14.lt
      have c15 := c14.below hb c14.lt
      replace hP := hP.below' hb
      replace hA := hA.below' hb
      replace P1 := P1.below' hb
      replace A1 := A1.below' hb
      replace P2 := P2.below' hb
      replace A2 := A2.below' hb
      replace P3 := P3.below' hb
      replace A3 := A3.below' hb
      clear hb b14 a14 c14
      have ca0 := (a15.cell 0).trans ka0
      have ca15 := (a15.cell 15).trans ka15
      have ca16 := (a15.cell 16).trans ka16
      have cc0 := (c15.cell 0).trans kc0
      have cc15 := (c15.cell 15).trans kc15
      have cc16 := (c15.cell 16).trans kc16
      clear a15 c15 ka0 ka15 ka16 kc0 kc15 kc16 hP hA P1 A1 P2 A2 P3 A3
      go_wp2_with fail
      go_ret
      have hv : ((IntKind.u64.wrap g == IntKind.u64.wrap f) == !(IntKind.u64.wrap f != IntKind.u64.wrap g)) = true := by rw [beq_eq_false_iff_ne.2 hgf, bne_iff_ne.2 hfg]; rfl
      exact ⟨congrArg (fun b => Ending.returned (.bool b)) hv, b15⟩
  · have p0 : m.pl = 0 := by omega
    have na := probe_near (r := r1) n f (by rw [L1.pl]; exact p0)
    have nb := probe_near (r := r2) n f (by rw [L2.pl]; exact p0)
    have nc := probe_near (r := r3) n g (by rw [L3.pl]; exact p0)
    have hsame : (probe r1 n f).wa = (probe r2 n f).wa ∧ (probe r1 n f).fo = (probe r2 n f).fo := ⟨na.1.trans (wa1.trans (wa2.symm.trans nb.1.symm)), na.2.trans (fo1.trans (fo2.symm.trans nb.2.symm))⟩
    have ka15 : (probe r1 n f).cells[15]? = some (.int .u64 m.wa) := by show some (Value.int .u64 (probe r1 n f).wa) = _; rw [na.1, wa1]
    have kc15 : (probe r3 n g).cells[15]? = some (.int .u64 m.wa) := by show some (Value.int .u64 (probe r3 n g).wa) = _; rw [nc.1, wa3]
    have ka16 : (probe r1 n f).cells[16]? = some (.int .u64 m.fo) := by show some (Value.int .u64 (probe r1 n f).fo) = _; rw [na.2, fo1]
    have kc16 : (probe r3 n g).cells[16]? = some (.int .u64 m.fo) := by show some (Value.int .u64 (probe r3 n g).fo) = _; rw [nc.2, fo3]
    clear na nb nc p0
    go_wp2_with (first | (refine wpList_alloc40 rfl rfl ?_) | (refine wpList_storeM rfl rfl w10.heap.size (probe r3 n g) zeroMsg rfl rfl (heap_alloc_new w10 _) ?_) | (refine wpList_loadZ rfl rfl w.heap.size m rfl ?hr ?_; case hr => exact zz) | (refine wpList_loadM rfl rfl w4.heap.size (probe r1 n f) rfl ?hr ?_; case hr => exact aa'))
    rw [← hw11]
    clear zz aa' cz9 hw11
    have z12 := z10.below bs z10.lt
    have b12 := b10.trans (bs.mono b10.size)
    replace hP := hP.below' bs
    replace hA := hA.below' bs
    replace P1 := P1.below' bs
    replace A1 := A1.below' bs
    replace P2 := P2.below' bs
    replace A2 := A2.below' bs
    replace P3 := P3.below' bs
    replace A3 := A3.below' bs
    have a12 := a_10.below bs a_10.lt
    have e12 := b_10.below bs b_10.lt
    clear bs z10 b10 a_10 b_10
    have c12 := c_11
    clear c_11
    refine Calls.mono (c11_core (probe r1 n f) m M U n f w11 (probe_k _ _ _) Lp1 (fun h => probe_far L1 n f h) (fun h => ⟨(probe_near (r := r1) n f (by rw [L1.pl]; exact h)).1.trans wa1, (probe_near (r := r1) n f (by rw [L1.pl]; exact h)).2.trans fo1⟩) hpl hal hP hA (by rw [probe_pa, ← L1.pl]; exact P1) (by rw [probe_aa, ← L1.al]; exact A1)) ?_
    rintro e w13 ⟨rfl, hb⟩
    have b13 := b12.trans (hb.mono b12.size)
    have z13 := z12.below hb z12.lt
    have a13 := a12.below hb a12.lt
    have e13 := e12.below hb e12.lt
    have c13 := c12.below hb c12.lt
    replace hP := hP.below' hb
    replace hA := hA.below' hb
    replace P1 := P1.below' hb
    replace A1 := A1.below' hb
    replace P2 := P2.below' hb
    replace A2 := A2.below' hb
    replace P3 := P3.below' hb
    replace A3 := A3.below' hb
    clear hb b12 z12 a12 e12 c12
    go_wp2_with (first | (refine wpList_loadMg rfl (w4.heap.size) (probe r1 n f) rfl rfl a13 ?_) | (refine wpList_loadMg rfl (w7.heap.size) (probe r2 n f) rfl rfl e13 ?_))
    refine Calls.mono (c12_core (probe r1 n f) (probe r2 n f) M U w13 (like_eq Lp1 Lp2 ((probe_k _ _ _).trans (probe_k _ _ _).symm) hsame.1 hsame.2) (Lp1.pnil.trans Lp2.pnil.symm) (Lp1.anil.trans Lp2.anil.symm) (by rw [Lp2.pl]; exact hpl) (by rw [Lp2.al]; exact hal) (by rw [probe_pa, probe_pl]; exact P2) (by rw [probe_aa, probe_al]; exact A2) (by rw [probe_pa, probe_pl, L2.pl, ← L1.pl]; exact P1) (by rw [probe_aa, probe_al, L2.al, ← L1.al]; exact A1)) ?_
    rintro e w14 ⟨rfl, hb⟩
    have b14 := b13.trans (hb.mono b13.size)
    have z14 := z13.below hb z13.lt
    have a14 := a13.below hb a13.lt
    have c14 := c13.below hb c13.lt
    replace hP := hP.below' hb
    replace hA := hA.below' hb
    replace P1 := P1.below' hb
    replace A1 := A1.below' hb
    replace P2 := P2.below' hb
    replace A2 := A2.below' hb
    replace P3 := P3.below' hb
    replace A3 := A3.below' hb
    clear hb b13 z13 a13 c13
    go_wp2_with (first | (refine wpList_loadMg rfl (w10.heap.size) (probe r3 n g) rfl rfl c14 ?_) | (refine wpList_loadZg rfl w.heap.size m rfl rfl z14 ?_))
    refine Calls.mono (c14_core (probe r3 n g) m M U w14 Lp3.rest Lp3.pnil Lp3.anil hpl hal hP hA (by rw [probe_pa, ← L3.pl]; exact P3) (by rw [probe_aa, ← L3.al]; exact A3)) ?_
    rintro e w15 ⟨rfl, hb⟩
    have b15 := b14.trans (hb.mono b14.size)
    have a15 := a14.below hb a14.lt
    have c15 := c14.below hb c14.lt
    replace hP := hP.below' hb
    replace hA := hA.below' hb
    replace P1 := P1.below' hb
    replace A1 := A1.below' hb
    replace P2 := P2.below' hb
    replace A2 := A2.below' hb
    replace P3 := P3.below' hb
    replace A3 := A3.below' hb
    clear hb b14 a14 c14
    have ca0 := (a15.cell 0).trans ka0
    have ca15 := (a15.cell 15).trans ka15
    have ca16 := (a15.cell 16).trans ka16
    have cc0 := (c15.cell 0).trans kc0
    have cc15 := (c15.cell 15).trans kc15
    have cc16 := (c15.cell 16).trans kc16
    clear a15 c15 ka0 ka15 ka16 kc0 kc15 kc16 hP hA P1 A1 P2 A2 P3 A3
    go_wp2_with fail
    go_ret
    exact ⟨rfl, b15⟩
end Go.Proofs.Qxb6616088a
