/-
  restMatches: the walk.
-/
import Derived.Test.Qxb6616088aRest0
namespace Go.Proofs.Qxb6616088a
open Go.RowKit

set_option maxRecDepth 100000 in
set_option maxHeartbeats 4000000 in
theorem c14_core (r m : Msg) (M : Nat → Mem) (U : Nat → Int) (w : World) (hr : r = { m with k := r.k, wa := r.wa, fo := r.fo, pa := r.pa, pc := r.pc, aa := r.aa, ac := r.ac }) (hpnil : r.pa.isNone = m.pa.isNone) (hanil : r.aa.isNone = m.aa.isNone) (hpl : m.pl ≤ 65536) (hal : m.al ≤ 131072) (hP : PathAt w m.pa m.pl M) (hA : AcksAt w m.aa m.al U) (hPr : PathAt w r.pa m.pl M) (hAr : AcksAt w r.aa m.al U) :
    Calls Try.prog 14 #[.agg r.cells, .agg m.cells] w fun e w' => e = .returned (.bool true) ∧ Below w.heap.size w w' := by
  have d1 : m.cells[1]? = some (.string m.f) := rfl
  have d2 : m.cells[2]? = some (.string m.t) := rfl
  have d3 : m.cells[3]? = some (.string m.ts) := rfl
  have d4 : m.cells[4]? = some (.string m.tn) := rfl
  have d5 : m.cells[5]? = some (.string m.rs) := rfl
  have d6 : m.cells[6]? = some (.string m.rp) := rfl
  have d7 : m.cells[7]? = some (.int .u8 m.mo) := rfl
  have d8 : m.cells[8]? = some (.int .i64 m.bg) := rfl
  have d10 : m.cells[10]? = some (.string m.cs) := rfl
  have d11 : m.cells[11]? = some (.string m.cn) := rfl
  have d12 : m.cells[12]? = some (.string m.ch) := rfl
  have d13 : m.cells[13]? = some (.int .u64 m.nu) := rfl
  have d14 : m.cells[14]? = some (.string m.bo) := rfl
  have d17 : m.cells[17]? = some (.int .u64 m.un) := rfl
  have d18 : m.cells[18]? = some (.int .u64 m.sq) := rfl
  have d20 : m.cells[20]? = some (.int .i64 m.fe) := rfl
  have d21 : m.cells[21]? = some (.int .i64 m.te) := rfl
  have d22 : m.cells[22]? = some (.int .i64 m.cl) := rfl
  have e1 : r.cells[1]? = some (.string m.f) := by rw [hr]; rfl
  have e2 : r.cells[2]? = some (.string m.t) := by rw [hr]; rfl
  have e3 : r.cells[3]? = some (.string m.ts) := by rw [hr]; rfl
  have e4 : r.cells[4]? = some (.string m.tn) := by rw [hr]; rfl
  have e5 : r.cells[5]? = some (.string m.rs) := by rw [hr]; rfl
  have e6 : r.cells[6]? = some (.string m.rp) := by rw [hr]; rfl
  have e7 : r.cells[7]? = some (.int .u8 m.mo) := by rw [hr]; rfl
  have e8 : r.cells[8]? = some (.int .i64 m.bg) := by rw [hr]; rfl
  have e10 : r.cells[10]? = some (.string m.cs) := by rw [hr]; rfl
  have e11 : r.cells[11]? = some (.string m.cn) := by rw [hr]; rfl
  have e12 : r.cells[12]? = some (.string m.ch) := by rw [hr]; rfl
  have e13 : r.cells[13]? = some (.int .u64 m.nu) := by rw [hr]; rfl
  have e14 : r.cells[14]? = some (.string m.bo) := by rw [hr]; rfl
  have e17 : r.cells[17]? = some (.int .u64 m.un) := by rw [hr]; rfl
  have e18 : r.cells[18]? = some (.int .u64 m.sq) := by rw [hr]; rfl
  have e20 : r.cells[20]? = some (.int .i64 m.fe) := by rw [hr]; rfl
  have e21 : r.cells[21]? = some (.int .i64 m.te) := by rw [hr]; rfl
  have e22 : r.cells[22]? = some (.int .i64 m.cl) := by rw [hr]; rfl
  have d9 : m.cells[9]? = some (.slice m.pa m.pl m.pc) := rfl
  have d19 : m.cells[19]? = some (.slice m.aa m.al m.ac) := rfl
  have e9 : r.cells[9]? = some (.slice r.pa m.pl r.pc) := by rw [hr]; rfl
  have e19 : r.cells[19]? = some (.slice r.aa m.al r.ac) := by rw [hr]; rfl
  clear hr
  have n36 := eql_nil36
  have n22 := eql_nil22
  have n24 := eql_nil24
  go_enter Try.func14, Try.ntmps14
  go_wp2_with (first | (refine wpList_box26 (m := m) rfl rfl rfl ?_) | (refine wpList_box40 (m := r) rfl rfl rfl ?_))
  clear d1 e1 d2 e2 d3 e3 d4 e4 d5 e5 d6 e6 d7 e7 d8 e8 d10 e10 d11 e11 d12 e12 d13 e13 d14 e14 d17 e17 d18 e18 d20 e20 d21 e21 d22 e22
  go_loopw [5] (fun i wr => ∃ k : Nat, i = .int .i64 k ∧ k ≤ m.pl ∧ MAt wr w.heap.size 40 r ∧ MAt wr (w.heap.size + 1) 26 m ∧ Below w.heap.size w wr) (fun i _ => m.pl - (intOf i).toNat)
  case atStart => exact ⟨0, rfl, by omega, heap_alloc2_old w _ _, heap_alloc2_new w _ _, ((Below.refl _ _).alloc (Nat.le_refl _) _).alloc (by simp) _⟩
  case round =>
    obtain ⟨k, rfl, hk, hR, hM, hB⟩ := hrel
    obtain ⟨wz, hwz⟩ : ∃ wz, wz = wr := ⟨_, rfl⟩
    subst hwz
    have c9 := (hM.cell 9).trans d9
    have b9 := (hR.cell 9).trans e9
    by_cases hkp : k < m.pl
    · obtain ⟨b, off, ha, hl, hr⟩ := hP k hkp
      obtain ⟨b2, off2, ha2, hl2, hr2⟩ := hPr k hkp
      have hrz := range_below hr hB hl
      have hr2z := range_below hr2 hB hl2
      obtain ⟨r0, r1, r2, r3, r4, r5, r6, r7, r8⟩ := range_mem hrz
      obtain ⟨s0, s1, s2, s3, s4, s5, s6, s7, s8⟩ := range_mem hr2z
      rw [ha] at c9
      rw [ha2] at b9
      have hR2 : ∀ w2, Below wz.heap.size wz.drew w2 → w2.cell? ⟨w.heap.size, 9, none⟩ = some (.slice (some ⟨b2, off2, none⟩) m.pl r.pc) := fun w2 h => (h.cell (p := ⟨w.heap.size, 9, none⟩) hR.lt).trans b9
      have hrg : ∀ w2, Below wz.heap.size wz.drew w2 → w2.rangeAt b2 (off2 + k * 9) (M k).cells := fun w2 h => range_below (w := wz.drew) hr2z h (Nat.lt_of_lt_of_le hl2 hB.size)
      clear d9 e9 d19 e19 hP hPr hA hAr n36 n22 n24 hr hr2 hrz hr2z ha ha2
      go_wp2_with fail
      go_region_with ((go_at_call 20; refine (c20_any (M k) wz.drew).mono ?_; rintro e w2 ⟨rfl, hb2⟩; have f9 := hR2 w2 hb2; obtain ⟨t0, t1, t2, t3, t4, t5, t6, t7, t8⟩ := range_mem (hrg w2 hb2)))
      all_goals
        have hz2 : Below wz.heap.size wz w2 := ((Below.refl wz.heap.size wz).drew).trans hb2
        have hR3 := hR.below hz2 hR.lt
        have hM3 := hM.below hz2 hM.lt
        have hB3 := hB.trans (hz2.mono hB.size)
        clear hb2 hz2 hR2 hrg f9 t0 t1 t2 t3 t4 t5 t6 t7 t8 r0 r1 r2 r3 r4 r5 r6 r7 r8 s0 s1 s2 s3 s4 s5 s6 s7 s8 c9 b9
        go_wp2_with fail
        exact ⟨⟨k + 1, by simp, by omega, hR3, hM3, hB3⟩, by simp [intOf]; omega⟩
    · obtain rfl : k = m.pl := by omega
      have c19 := (hM.cell 19).trans d19
      have b19 := (hR.cell 19).trans e19
      clear hP hPr c9 b9
      have c9 := (hM.cell 9).trans d9
      go_wp2_with fail
      go_loopw [6] (fun i wr => ∃ k : Nat, i = .int .i64 k ∧ k ≤ m.al ∧ Drawn' wz wr) (fun i _ => m.al - (intOf i).toNat)
      case atStart => exact ⟨0, rfl, by omega, 0, rfl⟩
      case round =>
        obtain ⟨q, rfl, hq, hD⟩ := hrel
        obtain ⟨wy, hwy⟩ : ∃ wy, wy = wr := ⟨_, rfl⟩
        subst hwy
        have hBy : Below w.heap.size w wy := by obtain ⟨n, rfl⟩ := hD; exact below_drewN hB n
        have y19 : wy.cell? ⟨w.heap.size + 1, 19, none⟩ = some (.slice m.aa m.al m.ac) := by obtain ⟨n, rfl⟩ := hD; exact c19
        have x19 : wy.cell? ⟨w.heap.size, 19, none⟩ = some (.slice r.aa m.al r.ac) := by obtain ⟨n, rfl⟩ := hD; exact b19
        clear c19 b19 c9 n36 n22 n24 d9 e9 d19 e19
        by_cases hqa : q < m.al
        · obtain ⟨b, off, ha, hl, hr⟩ := hA q hqa
          obtain ⟨b2, off2, ha2, hl2, hr2⟩ := hAr q hqa
          have g1 := (hBy.cell (p := ⟨b, _, none⟩) hl).trans hr
          have g2 := (hBy.cell (p := ⟨b2, _, none⟩) hl2).trans hr2
          rw [ha] at y19
          rw [ha2] at x19
          clear hA hAr hr hr2 ha ha2
          go_wp2_with fail
          go_quiet (fail)
          go_wp2_with fail
          exact ⟨⟨q + 1, by simp, by omega, hD.more _⟩, by simp [intOf]; omega⟩
        · obtain rfl : q = m.al := by omega
          go_wp2_with fail
          go_ret
          exact ⟨rfl, hBy⟩
end Go.Proofs.Qxb6616088a
