/-
  probeOf: the walk.
-/
import Derived.Test.Qxb6616088aRest
import Derived.Test.Qxb6616088aGuard
namespace Go.Proofs.Qxb6616088a
open Go.RowKit

set_option maxRecDepth 100000 in
set_option maxHeartbeats 4000000 in
theorem c11_core (r m : Msg) (M : Nat → Mem) (U : Nat → Int) (n f : Int) (w : World) (hk : r.k = 4) (hL : Like r m) (hlong : 0 < m.pl → r.wa = n ∧ r.fo = IntKind.u64.wrap f) (hshort : m.pl = 0 → r.wa = m.wa ∧ r.fo = m.fo)
    (hpl : m.pl ≤ 65536) (hal : m.al ≤ 131072) (hP : PathAt w m.pa m.pl M) (hA : AcksAt w m.aa m.al U) (hPr : PathAt w r.pa m.pl M) (hAr : AcksAt w r.aa m.al U) :
    Calls Try.prog 11 #[.agg r.cells, .agg m.cells, .int .u64 n, .int .i64 f] w fun e w' => e = .returned (.bool true) ∧ Below w.heap.size w w' := by
  have e0 : r.cells[0]? = some (.int .u8 4) := by rw [← hk]; rfl
  have d9 : m.cells[9]? = some (.slice m.pa m.pl m.pc) := rfl
  have d15 : m.cells[15]? = some (.int .u64 m.wa) := rfl
  have d16 : m.cells[16]? = some (.int .u64 m.fo) := rfl
  have e15 : r.cells[15]? = some (.int .u64 r.wa) := rfl
  have e16 : r.cells[16]? = some (.int .u64 r.fo) := rfl
  obtain ⟨w0, hw0⟩ : ∃ w0, w0 = (w.alloc (.cells r.cells 40)).alloc (.cells m.cells 26) := ⟨_, rfl⟩
  have hR : MAt w0 w.heap.size 40 r := by rw [hw0]; exact heap_alloc2_old w _ _
  have hM : MAt w0 (w.heap.size + 1) 26 m := by rw [hw0]; exact heap_alloc2_new w _ _
  have hB : Below w.heap.size w w0 := by rw [hw0]; exact ((Below.refl _ _).alloc (Nat.le_refl _) _).alloc (by simp) _
  have hP0 : PathAt w0 m.pa m.pl M := hP.below' hB
  have hPr0 : PathAt w0 r.pa m.pl M := hPr.below' hB
  have hA0 : AcksAt w0 m.aa m.al U := hA.below' hB
  have hAr0 : AcksAt w0 r.aa m.al U := hAr.below' hB
  clear hP hPr hA hAr
  go_enter Try.func11, Try.ntmps11
  go_wp2_with (first | (refine wpList_box26 (m := m) rfl rfl rfl ?_) | (refine wpList_box40 (m := r) rfl rfl rfl ?_) | (refine wpList_loadMg rfl w.heap.size r rfl rfl (heap_alloc2_old w _ _) ?_) | (refine wpList_loadZg rfl (w.heap.size + 1) m rfl rfl (heap_alloc2_new w _ _) ?_))
  rw [← hw0]
  refine Calls.mono (c14_core r m M U w0 hL.rest hL.pnil hL.anil hpl hal hP0 hA0 hPr0 hAr0) ?_
  rintro e w3 ⟨rfl, hb⟩
  have hB3 : Below w.heap.size w w3 := hB.trans (hb.mono hB.size)
  have hR3 := hR.below hb hR.lt
  have hM3 := hM.below hb hM.lt
  have c9 := (hM3.cell 9).trans d9
  have c15 := (hM3.cell 15).trans d15
  have c16 := (hM3.cell 16).trans d16
  have b15 := (hR3.cell 15).trans e15
  have b16 := (hR3.cell 16).trans e16
  clear hb hw0 hP0 hPr0 hA0 hAr0 d9 d15 d16 e15 e16 e0
  by_cases h : 0 < m.pl
  · obtain ⟨h1, h2⟩ := hlong h
    rw [h1] at b15
    rw [h2] at b16
    go_wp2_with fail
    go_ret
    exact ⟨rfl, hB3⟩
  · obtain ⟨h1, h2⟩ := hshort (by omega)
    rw [h1] at b15
    rw [h2] at b16
    go_wp2_with fail
    go_ret
    exact ⟨rfl, hB3⟩
end Go.Proofs.Qxb6616088a
