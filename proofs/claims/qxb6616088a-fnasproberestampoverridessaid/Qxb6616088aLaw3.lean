/-
  The law 'restamp overrides': the walk.
-/
import Derived.Test.Qxb6616088aBytes
import Derived.Test.Qxb6616088aLike
import Derived.Test.Qxb6616088aEq
import Derived.Test.Qxb6616088aOf
namespace Go.Proofs.Qxb6616088a
open Go.RowKit

set_option maxRecDepth 100000 in
set_option maxHeartbeats 4000000 in
theorem law3_core (m : Msg) (s1 s2 : ByteArray) (n1 f1 n2 f2 : Int) (M : Nat → Mem) (U : Nat → Int) (w : World) (hP : PathAt w m.pa m.pl M) (hA : AcksAt w m.aa m.al U) (hpn : m.pa = none → m.pl = 0) (han : m.aa = none → m.al = 0) :
    Calls Try.prog 3 #[.agg m.cells, .string s1, .int .u64 n1, .int .i64 f1, .string s2, .int .u64 n2, .int .i64 f2] w fun e w' => e = .returned (.bool true) ∧ Below w.heap.size w w' := by
  go_enter Try.func3, Try.ntmps3
  go_wp2_with (first | (refine wpList_box26 (m := m) rfl rfl rfl ?_) | (refine wpList_loadZ rfl rfl w.heap.size m rfl (heap_alloc_new w _) ?_))
  obtain ⟨w0, hw0⟩ : ∃ w0, w0 = w.alloc (.cells m.cells 26) := ⟨_, rfl⟩
  rw [← hw0]
  have z0 : MAt w0 w.heap.size 26 m := by rw [hw0]; exact heap_alloc_new w _
  have b0 : Below w.heap.size w w0 := by rw [hw0]; exact (Below.refl _ _).alloc (Nat.le_refl _) _
  replace hP := hP.below' b0
  replace hA := hA.below' b0
  clear hw0
  refine Calls.mono (c7_any m s1 s2 n1 f1 n2 f2 M w0 hP) ?_
  rintro e w1 ⟨hsb, hb⟩
  obtain ⟨b, rfl⟩ := hsb
  have z1 := z0.below hb z0.lt
  have b1 := b0.trans (hb.mono b0.size)
  replace hP := hP.below' hb
  replace hA := hA.below' hb
  clear hb b0 z0
  cases b
  · go_wp2_with fail
    go_ret
    exact ⟨rfl, b1⟩
  go_wp2_with (first | (refine wpList_loadZ rfl rfl w.heap.size m rfl z1 ?_))
  refine Calls.mono (c8_any m _ M w1 hP) ?_
  rintro e w2 ⟨b, rfl, hsh, hb⟩
  have z2 := z1.below hb z1.lt
  have b2 := b1.trans (hb.mono b1.size)
  replace hP := hP.below' hb
  replace hA := hA.below' hb
  clear hb b1 z1
  cases b
  case true =>
    go_wp2_with fail
    go_ret
    exact ⟨rfl, b2⟩
  obtain ⟨hpl, hal⟩ := hsh rfl
  clear hsh
  go_wp2_with (first | (refine wpList_loadZ rfl rfl w.heap.size m rfl z2 ?_))
  refine Calls.mono (c10_any m M U w2 hpl hal hP hA hpn han) ?_
  rintro e w3 ⟨r1, rfl, L1, k1, wa1, fo1, P1, A1, hb⟩
  have z3 := z2.below hb z2.lt
  have b3 := b2.trans (hb.mono b2.size)
  replace hP := hP.below' hb
  replace hA := hA.below' hb
  clear hb b2 z2
  go_wp2_with fail
  refine Calls.mono (c9_any r1 s1 n1 f1 w3) ?_
  rintro e w4 ⟨rfl, hb⟩
  have z4 := z3.below hb z3.lt
  have b4 := b3.trans (hb.mono b3.size)
  replace hP := hP.below' hb
  replace hA := hA.below' hb
  replace P1 := P1.below' hb
  replace A1 := A1.below' hb
  clear hb b3 z3
  have L1p := L1.probe n1 f1
  obtain ⟨w5, hw5⟩ : ∃ w5, w5 = (w4.alloc (.cells zeroMsg.cells 40)).setRow w4.heap.size (probe r1 n1 f1).cells := ⟨_, rfl⟩
  have b45 : Below w4.heap.size w4 w5 := by rw [hw5]; exact below_setRow ((Below.refl _ _).alloc (Nat.le_refl _) _) _ _ (Nat.le_refl _)
  have o5 : MAt w5 w4.heap.size 40 (probe r1 n1 f1) := by rw [hw5]; exact setRow_heap _ _ _ _ _ _ (heap_alloc_new w4 _)
  go_wp2_with (first | (refine wpList_alloc40 rfl rfl ?_) | (refine wpList_storeM rfl rfl w4.heap.size (probe r1 n1 f1) zeroMsg rfl rfl (heap_alloc_new w4 _) ?_) | (refine wpList_loadM rfl rfl w4.heap.size (probe r1 n1 f1) rfl (setRow_heap _ _ _ _ _ _ (heap_alloc_new w4 _)) ?_))
  rw [← hw5]
  have z5 := z4.below b45 z4.lt
  have b5 := b4.trans (b45.mono b4.size)
  replace hP := hP.below' b45
  replace hA := hA.below' b45
  replace P1 := P1.below' b45
  replace A1 := A1.below' b45
  clear hw5 b4 z4 b45
  refine Calls.mono (c9_any (probe r1 n1 f1) s2 n2 f2 w5) ?_
  rintro e w6 ⟨rfl, hb⟩
  have z6 := z5.below hb z5.lt
  have b6 := b5.trans (hb.mono b5.size)
  have o6 := o5.below hb o5.lt
  replace hP := hP.below' hb
  replace hA := hA.below' hb
  replace P1 := P1.below' hb
  replace A1 := A1.below' hb
  clear hb b5 z5 o5
  have L1t := L1p.probe n2 f2
  obtain ⟨w7, hw7⟩ : ∃ w7, w7 = (w6.alloc (.cells zeroMsg.cells 40)).setRow w6.heap.size (probe (probe r1 n1 f1) n2 f2).cells := ⟨_, rfl⟩
  have b67 : Below w6.heap.size w6 w7 := by rw [hw7]; exact below_setRow ((Below.refl _ _).alloc (Nat.le_refl _) _) _ _ (Nat.le_refl _)
  have t7 : MAt w7 w6.heap.size 40 (probe (probe r1 n1 f1) n2 f2) := by rw [hw7]; exact setRow_heap _ _ _ _ _ _ (heap_alloc_new w6 _)
  have z7 := z6.below b67 z6.lt
  have z7' := z7
  rw [hw7] at z7'
  go_wp2_with (first | (refine wpList_alloc40 rfl rfl ?_) | (refine wpList_storeM rfl rfl w6.heap.size (probe (probe r1 n1 f1) n2 f2) zeroMsg rfl rfl (heap_alloc_new w6 _) ?_) | (refine wpList_loadZ rfl rfl w.heap.size m rfl ?hr ?_; case hr => exact z7'))
  rw [← hw7]
  have b7 := b6.trans (b67.mono b6.size)
  have o7 := o6.below b67 o6.lt
  replace hP := hP.below' b67
  replace hA := hA.below' b67
  replace P1 := P1.below' b67
  replace A1 := A1.below' b67
  clear hw7 z7' b6 z6 b67 o6
  refine Calls.mono (c10_any m M U w7 hpl hal hP hA hpn han) ?_
  rintro e w8 ⟨r2, rfl, L2, k2, wa2, fo2, P2, A2, hb⟩
  have z8 := z7.below hb z7.lt
  have b8 := b7.trans (hb.mono b7.size)
  have o8 := o7.below hb o7.lt
  have t8 := t7.below hb t7.lt
  replace hP := hP.below' hb
  replace hA := hA.below' hb
  replace P1 := P1.below' hb
  replace A1 := A1.below' hb
  clear hb b7 z7 o7 t7
  go_wp2_with fail
  refine Calls.mono (c9_any r2 s2 n2 f2 w8) ?_
  rintro e w9 ⟨rfl, hb⟩
  have z9 := z8.below hb z8.lt
  have b9 := b8.trans (hb.mono b8.size)
  have o9 := o8.below hb o8.lt
  have t9 := t8.below hb t8.lt
  replace hP := hP.below' hb
  replace hA := hA.below' hb
  replace P1 := P1.below' hb
  replace A1 := A1.below' hb
  replace P2 := P2.below' hb
  replace A2 := A2.below' hb
  clear hb b8 z8 o8 t8
  have L2p := L2.probe n2 f2
  obtain ⟨w10, hw10⟩ : ∃ w10, w10 = (w9.alloc (.cells zeroMsg.cells 40)).setRow w9.heap.size (probe r2 n2 f2).cells := ⟨_, rfl⟩
  have b910 : Below w9.heap.size w9 w10 := by rw [hw10]; exact below_setRow ((Below.refl _ _).alloc (Nat.le_refl _) _) _ _ (Nat.le_refl _)
  have d10 : MAt w10 w9.heap.size 40 (probe r2 n2 f2) := by rw [hw10]; exact setRow_heap _ _ _ _ _ _ (heap_alloc_new w9 _)
  have z10 := z9.below b910 z9.lt
  have o10 := o9.below b910 o9.lt
  have t10 := t9.below b910 t9.lt
  have z10' := z10
  have o10' := o10
  rw [hw10] at z10' o10'
  go_wp2_with (first | (refine wpList_alloc40 rfl rfl ?_) | (refine wpList_storeM rfl rfl w9.heap.size (probe r2 n2 f2) zeroMsg rfl rfl (heap_alloc_new w9 _) ?_) | (refine wpList_loadZ rfl rfl w.heap.size m rfl ?hr ?_; case hr => exact z10') | (refine wpList_loadM rfl rfl w4.heap.size (probe r1 n1 f1) rfl ?hr ?_; case hr => exact o10'))
  rw [← hw10]
  have b10 := b9.trans (b910.mono b9.size)
  replace hP := hP.below' b910
  replace hA := hA.below' b910
  replace P1 := P1.below' b910
  replace A1 := A1.below' b910
  replace P2 := P2.below' b910
  replace A2 := A2.below' b910
  clear hw10 z10' o10' b9 z9 b910 o9 t9
  refine Calls.mono (c11_core (probe r1 n1 f1) m M U n1 f1 w10 (probe_k _ _ _) L1p (fun h => probe_far L1 n1 f1 h) (fun h => ?_) hpl hal hP hA (by rw [probe_pa, ← L1.pl]; exact P1) (by rw [probe_aa, ← L1.al]; exact A1)) ?_
  · obtain ⟨x, y⟩ := probe_near (r := r1) n1 f1 (by rw [L1.pl]; exact h)
    exact ⟨x.trans wa1, y.trans fo1⟩
  rintro e w11 ⟨rfl, hb⟩
  have z11 := z10.below hb z10.lt
  have b11 := b10.trans (hb.mono b10.size)
  have o11 := o10.below hb o10.lt
  have t11 := t10.below hb t10.lt
  have d11 := d10.below hb d10.lt
  replace hP := hP.below' hb
  replace hA := hA.below' hb
  replace P1 := P1.below' hb
  replace A1 := A1.below' hb
  replace P2 := P2.below' hb
  replace A2 := A2.below' hb
  clear hb b10 z10 o10 t10 d10
  go_wp2_with (first | (refine wpList_loadZg rfl w.heap.size m rfl rfl z11 ?_) | (refine wpList_loadMg rfl w9.heap.size (probe r2 n2 f2) rfl rfl d11 ?_))
  refine Calls.mono (c11_core (probe r2 n2 f2) m M U n2 f2 w11 (probe_k _ _ _) L2p (fun h => probe_far L2 n2 f2 h) (fun h => ?_) hpl hal hP hA (by rw [probe_pa, ← L2.pl]; exact P2) (by rw [probe_aa, ← L2.al]; exact A2)) ?_
  · obtain ⟨x, y⟩ := probe_near (r := r2) n2 f2 (by rw [L2.pl]; exact h)
    exact ⟨x.trans wa2, y.trans fo2⟩
  rintro e w12 ⟨rfl, hb⟩
  have b12 := b11.trans (hb.mono b11.size)
  have t12 := t11.below hb t11.lt
  have d12 := d11.below hb d11.lt
  replace P1 := P1.below' hb
  replace A1 := A1.below' hb
  replace P2 := P2.below' hb
  replace A2 := A2.below' hb
  clear hb b11 z11 o11 t11 d11 hP hA
  go_wp2_with (first | (refine wpList_loadMg rfl w6.heap.size (probe (probe r1 n1 f1) n2 f2) rfl rfl t12 ?_) | (refine wpList_loadMg rfl w9.heap.size (probe r2 n2 f2) rfl rfl d12 ?_))
  have hsame : (probe (probe r1 n1 f1) n2 f2).wa = (probe r2 n2 f2).wa ∧ (probe (probe r1 n1 f1) n2 f2).fo = (probe r2 n2 f2).fo := by
    by_cases h : 0 < m.pl
    · obtain ⟨x, y⟩ := probe_far L1p n2 f2 h
      obtain ⟨x', y'⟩ := probe_far L2 n2 f2 h
      exact ⟨x.trans x'.symm, y.trans y'.symm⟩
    · obtain ⟨x, y⟩ := probe_near (r := probe r1 n1 f1) n2 f2 (by rw [L1p.pl]; omega)
      obtain ⟨x1, y1⟩ := probe_near (r := r1) n1 f1 (by rw [L1.pl]; omega)
      obtain ⟨x', y'⟩ := probe_near (r := r2) n2 f2 (by rw [L2.pl]; omega)
      exact ⟨x.trans (x1.trans (wa1.trans (wa2.symm.trans x'.symm))), y.trans (y1.trans (fo1.trans (fo2.symm.trans y'.symm)))⟩
  refine Calls.mono (c12_core (probe (probe r1 n1 f1) n2 f2) (probe r2 n2 f2) M U w12 (like_eq L1t L2p ((probe_k _ _ _).trans (probe_k _ _ _).symm) hsame.1 hsame.2) (L1t.pnil.trans L2p.pnil.symm) (L1t.anil.trans L2p.anil.symm) (by rw [L2p.pl]; exact hpl) (by rw [L2p.al]; exact hal)
    (by rw [probe_pa, probe_pl]; exact P2) (by rw [probe_aa, probe_al]; exact A2) (by rw [probe_pa, probe_pa, probe_pl, L2.pl, ← L1.pl]; exact P1) (by rw [probe_aa, probe_aa, probe_al, L2.al, ← L1.al]; exact A1)) ?_
  rintro e w13 ⟨rfl, hb⟩
  have b13 := b12.trans (hb.mono b12.size)
  clear hb b12 t12 d12 P1 A1 P2 A2
  go_wp2_with fail
  go_ret
  exact ⟨rfl, b13⟩
end Go.Proofs.Qxb6616088a
