/-
  toMessage: the walk.
-/
import Derived.Test.Qxb6616088aMsg0
namespace Go.Proofs.Qxb6616088a
open Go.RowKit

theorem wpList_build40 {ops : Array Oper} {rest : List Oper} {o : Oper} {a : Act} {w : World} {Q : Exit → Act → World → Prop} {x0 x1 x2 x3 x4 x5 x6 x7 x8 x9 x10 x11 x12 x13 x14 x15 x16 x17 x18 : Operand} (m : Msg) (hg : o.guard = none)
    (ho : o.op = .build 40 #[(0, x0), (1, x1), (2, x2), (3, x3), (4, x4), (5, x5), (6, x6), (7, x7), (8, x8), (9, x9), (10, x10), (11, x11), (12, x12), (13, x13), (14, x14), (15, x15), (16, x16), (17, x17), (18, x18)])
    (hx : #[(0, a.eval x0), (1, a.eval x1), (2, a.eval x2), (3, a.eval x3), (4, a.eval x4), (5, a.eval x5), (6, a.eval x6), (7, a.eval x7), (8, a.eval x8), (9, a.eval x9), (10, a.eval x10), (11, a.eval x11), (12, a.eval x12), (13, a.eval x13), (14, a.eval x14), (15, a.eval x15), (16, a.eval x16), (17, a.eval x17), (18, a.eval x18)] =
      #[(0, Value.int .u8 m.k), (1, .string m.f), (2, .string m.t), (3, .agg #[.string m.ts, .string m.tn]), (4, .agg #[.string m.rs, .string m.rp]), (5, .int .u8 m.mo), (6, .int .i64 m.bg), (7, .slice m.pa m.pl m.pc), (8, .agg #[.string m.cs, .string m.cn, .string m.ch]), (9, .int .u64 m.nu), (10, .string m.bo), (11, .int .u64 m.wa), (12, .int .u64 m.fo), (13, .int .u64 m.un), (14, .int .u64 m.sq), (15, .slice m.aa m.al m.ac), (16, .int .i64 m.fe), (17, .int .i64 m.te), (18, .int .i64 m.cl)])
    (h : wpList Try.prog ops Q rest (a.put o.dst (.agg m.cells)) w) : wpList Try.prog ops Q (o :: rest) a w :=
  wpList_plain hg fun K hK => wp_of_val (.agg m.cells) (by
    have hb := build40 m w
    rw [← hx] at hb
    simp only [execOp, ho, List.map_toArray, List.map_cons, List.map_nil, Sem.run_bind, hb, Result.andThen_ok, Sem.run_pure]) (hK _ _ h)


/-- Nine cells are there. -/
structure Room (w : World) (b o : Nat) : Prop where
  out : w.there b o 9
theorem wpList_storeMem {ops : Array Oper} {rest : List Oper} {o : Oper} {a : Act} {w : World} {Q : Exit → Act → World → Prop} {x y : Operand} (hg : o.guard = none) (ho : o.op = .store 72 x y) (b o' : Nat) (m : Mem)
    (hx : a.eval x = .pointer (some ⟨b, o', none⟩)) (hy : a.eval y = .agg #[.string m.s0, .string m.s1, .int .i64 m.b, .string m.s3, .string m.s4, .string m.s5, .string m.s6, .string m.s7, .int .u64 m.n]) (ht : Room w b o')
    (h : wpList Try.prog ops Q rest (a.put o.dst undef) (w.setCells b o' m.cells)) : wpList Try.prog ops Q (o :: rest) a w :=
  wpList_store_mid hg 72 x y ho b o' _ hx hy ht.out (by kernel_rfl) (by simp [Value.oneCell']) h
theorem cell_setRow_off {w : World} {g : Nat} {c : Array Value} {p : Addr} (h : p.block ≠ g) : (w.setRow g c).cell? p = w.cell? p := cell_setRow_other w g c p h
theorem PathAt.setRow {w : World} {a : Option Addr} {n g : Nat} {M : Nat → Mem} (h : PathAt w a n M) (c : Array Value) (hne : ∀ b off, a = some ⟨b, off, none⟩ → b ≠ g) : PathAt (w.setRow g c) a n M := by
  intro i hi
  obtain ⟨b, off, e, hl, hr⟩ := h i hi
  exact ⟨b, off, e, by simpa using hl, fun j v hj => (cell_setRow_off (p := ⟨b, _, none⟩) (hne b off e)).trans (hr j v hj)⟩
theorem AcksAt.setRow {w : World} {a : Option Addr} {n g : Nat} {U : Nat → Int} (h : AcksAt w a n U) (c : Array Value) (hne : ∀ b off, a = some ⟨b, off, none⟩ → b ≠ g) : AcksAt (w.setRow g c) a n U := by
  intro i hi
  obtain ⟨b, off, e, hl, hr⟩ := h i hi
  exact ⟨b, off, e, by simpa using hl, (cell_setRow_off (p := ⟨b, _, none⟩) (hne b off e)).trans hr⟩
theorem PFill.path {w : World} {g n : Nat} {M : Nat → Mem} (h : PFill w g n M n) : PathAt w (some ⟨g, 0, none⟩) n M :=
  fun i hi => ⟨g, 0, rfl, h.lt, by rw [Nat.zero_add]; exact h.done i hi⟩
theorem AFill.acks {w : World} {g n : Nat} {U : Nat → Int} (h : AFill w g n U n) : AcksAt w (some ⟨g, 0, none⟩) n U := by
  obtain ⟨f, hr, hf⟩ := h
  intro i hi
  exact ⟨g, 0, rfl, hr.lt, by rw [Nat.zero_add, hr.cell hi, hf i hi]⟩
theorem AFill.cell {w : World} {g n k : Nat} {U : Nat → Int} (h : AFill w g n U k) (hk : k < n) : ∃ v, w.cell? ⟨g, k, none⟩ = some v ∧ w.frozen? ⟨g, k, none⟩ = false := by
  obtain ⟨f, hr, _⟩ := h
  exact ⟨_, hr.cell hk, hr.frozen _⟩
theorem AFill.lt {w : World} {g n k : Nat} {U : Nat → Int} (h : AFill w g n U k) : g < w.heap.size := by
  obtain ⟨f, hr, _⟩ := h
  exact hr.lt
theorem AcksAt.below {w w' : World} {B n : Nat} {a : Option Addr} {U : Nat → Int} (h : AcksAt w a n U) (hb : Below B w w') (hB : ∀ b off, a = some ⟨b, off, none⟩ → b < B) : AcksAt w' a n U := by
  intro i hi
  obtain ⟨b, off, e, hl, hr⟩ := h i hi
  exact ⟨b, off, e, Nat.lt_of_lt_of_le hl hb.size, (hb.cell (p := ⟨b, _, none⟩) (hB b off e)).trans hr⟩

set_option maxRecDepth 100000 in
set_option maxHeartbeats 4000000 in
theorem c10_any (m : Msg) (M : Nat → Mem) (U : Nat → Int) (w : World) (hpl : m.pl ≤ 65536) (hal : m.al ≤ 131072) (hP : PathAt w m.pa m.pl M) (hA : AcksAt w m.aa m.al U) (hpn : m.pa = none → m.pl = 0) (han : m.aa = none → m.al = 0) :
    Calls Try.prog 10 #[.agg m.cells] w fun e w' => Copied w m M U e w' := by
  have h9 : m.cells[9]? = some (.slice m.pa m.pl m.pc) := rfl
  have h19 : m.cells[19]? = some (.slice m.aa m.al m.ac) := rfl
  have hmp := run_make_path m.pl hpl
  have hma := run_make_acks m.al hal
  cases hpa : m.pa with
  | none =>
    have hp0 := hpn hpa
    have hMz : MAt ((w.alloc (.cells m.cells 26)).alloc (.cells zeroMsg.cells 40)) w.heap.size 26 m := heap_alloc2_old w _ _
    have hZz : MAt ((w.alloc (.cells m.cells 26)).alloc (.cells zeroMsg.cells 40)) (w.heap.size + 1) 40 zeroMsg := heap_alloc2_new w _ _
    have hBz : Below w.heap.size w ((w.alloc (.cells m.cells 26)).alloc (.cells zeroMsg.cells 40)) := ((Below.refl _ _).alloc (Nat.le_refl _) _).alloc (by simp) _
    have hlz : w.heap.size + 1 < ((w.alloc (.cells m.cells 26)).alloc (.cells zeroMsg.cells 40)).heap.size := by simp
    rw [hpa, hp0] at h9
    go_enter Try.func10, Try.ntmps10
    cases haa : m.aa with
    | none =>
      have ha0 := han haa
      have hc19 := (hMz.cell 19).trans h19
      rw [haa, ha0] at hc19
      clear hmp hma hA
      have d0 : m.cells[0]? = some (.int .u8 m.k) := rfl
      have d1 : m.cells[1]? = some (.string m.f) := rfl
      have d2 : m.cells[2]? = some (.string m.t) := rfl
      have d3 : m.cells[3]? = some (.string m.ts) := rfl
      have d4 : m.cells[4]? = some (.string m.tn) := rfl
      have d5 : m.cells[5]? = some (.string m.rs) := rfl
      have d6 : m.cells[6]? = some (.string m.rp) := rfl
      have d7 : m.cells[7]? = some (.int .u8 m.mo) := rfl
      have d8 : m.cells[8]? = some (.int .i64 m.bg) := rfl
      have d10 : m.cells[10]? = some (.string m.cs) := rfl
      have d11 : m.cells[11]? = some (.string m.cn) := rfl
      have d12 : m.cells[12]? = some (.string m.ch) := rfl
      have d13 : m.cells[13]? = some (.int .u64 m.nu) := rfl
      have d14 : m.cells[14]? = some (.string m.bo) := rfl
      have d15 : m.cells[15]? = some (.int .u64 m.wa) := rfl
      have d16 : m.cells[16]? = some (.int .u64 m.fo) := rfl
      have d17 : m.cells[17]? = some (.int .u64 m.un) := rfl
      have d18 : m.cells[18]? = some (.int .u64 m.sq) := rfl
      have d20 : m.cells[20]? = some (.int .i64 m.fe) := rfl
      have d21 : m.cells[21]? = some (.int .i64 m.te) := rfl
      have d22 : m.cells[22]? = some (.int .i64 m.cl) := rfl
      have c0 : ((w.alloc (.cells m.cells 26)).alloc (.cells zeroMsg.cells 40)).cell? ⟨w.heap.size, 0, none⟩ = some (.int .u8 m.k) := (hMz.cell 0).trans rfl
      have c1 : ((w.alloc (.cells m.cells 26)).alloc (.cells zeroMsg.cells 40)).cell? ⟨w.heap.size, 1, none⟩ = some (.string m.f) := (hMz.cell 1).trans rfl
      have c2 : ((w.alloc (.cells m.cells 26)).alloc (.cells zeroMsg.cells 40)).cell? ⟨w.heap.size, 2, none⟩ = some (.string m.t) := (hMz.cell 2).trans rfl
      have c3 : ((w.alloc (.cells m.cells 26)).alloc (.cells zeroMsg.cells 40)).cell? ⟨w.heap.size, 3, none⟩ = some (.string m.ts) := (hMz.cell 3).trans rfl
      have c4 : ((w.alloc (.cells m.cells 26)).alloc (.cells zeroMsg.cells 40)).cell? ⟨w.heap.size, 4, none⟩ = some (.string m.tn) := (hMz.cell 4).trans rfl
      have c5 : ((w.alloc (.cells m.cells 26)).alloc (.cells zeroMsg.cells 40)).cell? ⟨w.heap.size, 5, none⟩ = some (.string m.rs) := (hMz.cell 5).trans rfl
      have c6 : ((w.alloc (.cells m.cells 26)).alloc (.cells zeroMsg.cells 40)).cell? ⟨w.heap.size, 6, none⟩ = some (.string m.rp) := (hMz.cell 6).trans rfl
      have c7 : ((w.alloc (.cells m.cells 26)).alloc (.cells zeroMsg.cells 40)).cell? ⟨w.heap.size, 7, none⟩ = some (.int .u8 m.mo) := (hMz.cell 7).trans rfl
      have c8 : ((w.alloc (.cells m.cells 26)).alloc (.cells zeroMsg.cells 40)).cell? ⟨w.heap.size, 8, none⟩ = some (.int .i64 m.bg) := (hMz.cell 8).trans rfl
      have c10 : ((w.alloc (.cells m.cells 26)).alloc (.cells zeroMsg.cells 40)).cell? ⟨w.heap.size, 10, none⟩ = some (.string m.cs) := (hMz.cell 10).trans rfl
      have c11 : ((w.alloc (.cells m.cells 26)).alloc (.cells zeroMsg.cells 40)).cell? ⟨w.heap.size, 11, none⟩ = some (.string m.cn) := (hMz.cell 11).trans rfl
      have c12 : ((w.alloc (.cells m.cells 26)).alloc (.cells zeroMsg.cells 40)).cell? ⟨w.heap.size, 12, none⟩ = some (.string m.ch) := (hMz.cell 12).trans rfl
      have c13 : ((w.alloc (.cells m.cells 26)).alloc (.cells zeroMsg.cells 40)).cell? ⟨w.heap.size, 13, none⟩ = some (.int .u64 m.nu) := (hMz.cell 13).trans rfl
      have c14 : ((w.alloc (.cells m.cells 26)).alloc (.cells zeroMsg.cells 40)).cell? ⟨w.heap.size, 14, none⟩ = some (.string m.bo) := (hMz.cell 14).trans rfl
      have c15 : ((w.alloc (.cells m.cells 26)).alloc (.cells zeroMsg.cells 40)).cell? ⟨w.heap.size, 15, none⟩ = some (.int .u64 m.wa) := (hMz.cell 15).trans rfl
      have c16 : ((w.alloc (.cells m.cells 26)).alloc (.cells zeroMsg.cells 40)).cell? ⟨w.heap.size, 16, none⟩ = some (.int .u64 m.fo) := (hMz.cell 16).trans rfl
      have c17 : ((w.alloc (.cells m.cells 26)).alloc (.cells zeroMsg.cells 40)).cell? ⟨w.heap.size, 17, none⟩ = some (.int .u64 m.un) := (hMz.cell 17).trans rfl
      have c18 : ((w.alloc (.cells m.cells 26)).alloc (.cells zeroMsg.cells 40)).cell? ⟨w.heap.size, 18, none⟩ = some (.int .u64 m.sq) := (hMz.cell 18).trans rfl
      have c20 : ((w.alloc (.cells m.cells 26)).alloc (.cells zeroMsg.cells 40)).cell? ⟨w.heap.size, 20, none⟩ = some (.int .i64 m.fe) := (hMz.cell 20).trans rfl
      have c21 : ((w.alloc (.cells m.cells 26)).alloc (.cells zeroMsg.cells 40)).cell? ⟨w.heap.size, 21, none⟩ = some (.int .i64 m.te) := (hMz.cell 21).trans rfl
      have c22 : ((w.alloc (.cells m.cells 26)).alloc (.cells zeroMsg.cells 40)).cell? ⟨w.heap.size, 22, none⟩ = some (.int .i64 m.cl) := (hMz.cell 22).trans rfl
      go_wp2_with (first | (refine wpList_box26 (m := m) rfl rfl rfl ?_) | (refine wpList_alloc40 rfl rfl ?_) | (refine wpList_build40 { m with pa := none, pl := 0, pc := 0, aa := none, al := 0, ac := 0 } rfl rfl rfl ?_) | (refine wpList_storeM rfl rfl (w.heap.size + 1) { m with pa := none, pl := 0, pc := 0, aa := none, al := 0, ac := 0 } zeroMsg rfl rfl hZz ?_))
      refine bodyPost_ret (v := .agg { m with pa := none, pl := 0, pc := 0, aa := none, al := 0, ac := 0 }.cells) ?_ rfl ⟨{ m with pa := none, pl := 0, pc := 0, aa := none, al := 0, ac := 0 }, rfl, ⟨by simp [hp0]; try simp [ha0], by simp [hpa], by simp [haa]⟩, rfl, rfl, rfl, fun i hi => absurd hi (Nat.not_lt_zero i), fun i hi => absurd hi (Nat.not_lt_zero i), below_setRow hBz _ _ (by omega)⟩
      exact results_cell_row (P := Try.prog) (p := 2) (ty := 40) (by kernel_rfl) _ _ (w.heap.size + 1) 40 _ (0, 0) _ rfl (setRow_heap _ _ _ _ _ _ hZz) Try.underlying40 rfl (by kernel_rfl)
    | some a2 =>
      have hc19 := (hMz.cell 19).trans h19
      rw [haa] at hc19
      go_wp2_with (first | (refine wpList_box26 (m := m) rfl rfl rfl ?_) | (refine wpList_alloc40 rfl rfl ?_))
      go_loopw [6] (fun i wr => ∃ k : Nat, i = .int .i64 k ∧ k ≤ m.al ∧ AFill wr (w.heap.size + 1 + 1) m.al U k ∧ Below ((w.alloc (.cells m.cells 26)).alloc (.cells zeroMsg.cells 40)).heap.size ((w.alloc (.cells m.cells 26)).alloc (.cells zeroMsg.cells 40)) wr) (fun i _ => m.al - (intOf i).toNat)
      case atStart => exact ⟨0, rfl, by omega, (by have := afill_start ((w.alloc (.cells m.cells 26)).alloc (.cells zeroMsg.cells 40)) m.al U; simpa using this), (Below.refl _ _).alloc (Nat.le_refl _) _⟩
      case round =>
        obtain ⟨k, rfl, hk, hF, hBr⟩ := hrel
        obtain ⟨wy, hwy⟩ : ∃ wy, wy = wr := ⟨_, rfl⟩
        subst hwy
        have hMy := hMz.below hBr hMz.lt
        have hZy := hZz.below hBr hZz.lt
        have hBy := hBz.trans (hBr.mono hBz.size)
        clear hc19
        have hc19 := (hMy.cell 19).trans h19
        rw [haa] at hc19
        by_cases hkn : k < m.al
        · obtain ⟨b, off, ha, hl, hr⟩ := hA k hkn
          have hr' := (hBy.cell (p := ⟨b, _, none⟩) hl).trans hr
          rw [← haa, ha] at hc19
          obtain ⟨v, hv, hz⟩ := hF.cell hkn
          clear hmp hma hr hP hA
          go_wp2_with fail
          exact ⟨⟨k + 1, by simp, by omega, afill_step hF, hBr.setCell (by simp) _⟩, by simp [intOf]; omega⟩
        · obtain rfl : k = m.al := by omega
          clear hmp hma hA
          have hMz := hMy
          have d0 : m.cells[0]? = some (.int .u8 m.k) := rfl
          have d1 : m.cells[1]? = some (.string m.f) := rfl
          have d2 : m.cells[2]? = some (.string m.t) := rfl
          have d3 : m.cells[3]? = some (.string m.ts) := rfl
          have d4 : m.cells[4]? = some (.string m.tn) := rfl
          have d5 : m.cells[5]? = some (.string m.rs) := rfl
          have d6 : m.cells[6]? = some (.string m.rp) := rfl
          have d7 : m.cells[7]? = some (.int .u8 m.mo) := rfl
          have d8 : m.cells[8]? = some (.int .i64 m.bg) := rfl
          have d10 : m.cells[10]? = some (.string m.cs) := rfl
          have d11 : m.cells[11]? = some (.string m.cn) := rfl
          have d12 : m.cells[12]? = some (.string m.ch) := rfl
          have d13 : m.cells[13]? = some (.int .u64 m.nu) := rfl
          have d14 : m.cells[14]? = some (.string m.bo) := rfl
          have d15 : m.cells[15]? = some (.int .u64 m.wa) := rfl
          have d16 : m.cells[16]? = some (.int .u64 m.fo) := rfl
          have d17 : m.cells[17]? = some (.int .u64 m.un) := rfl
          have d18 : m.cells[18]? = some (.int .u64 m.sq) := rfl
          have d20 : m.cells[20]? = some (.int .i64 m.fe) := rfl
          have d21 : m.cells[21]? = some (.int .i64 m.te) := rfl
          have d22 : m.cells[22]? = some (.int .i64 m.cl) := rfl
          have c0 : wy.cell? ⟨w.heap.size, 0, none⟩ = some (.int .u8 m.k) := (hMz.cell 0).trans rfl
          have c1 : wy.cell? ⟨w.heap.size, 1, none⟩ = some (.string m.f) := (hMz.cell 1).trans rfl
          have c2 : wy.cell? ⟨w.heap.size, 2, none⟩ = some (.string m.t) := (hMz.cell 2).trans rfl
          have c3 : wy.cell? ⟨w.heap.size, 3, none⟩ = some (.string m.ts) := (hMz.cell 3).trans rfl
          have c4 : wy.cell? ⟨w.heap.size, 4, none⟩ = some (.string m.tn) := (hMz.cell 4).trans rfl
          have c5 : wy.cell? ⟨w.heap.size, 5, none⟩ = some (.string m.rs) := (hMz.cell 5).trans rfl
          have c6 : wy.cell? ⟨w.heap.size, 6, none⟩ = some (.string m.rp) := (hMz.cell 6).trans rfl
          have c7 : wy.cell? ⟨w.heap.size, 7, none⟩ = some (.int .u8 m.mo) := (hMz.cell 7).trans rfl
          have c8 : wy.cell? ⟨w.heap.size, 8, none⟩ = some (.int .i64 m.bg) := (hMz.cell 8).trans rfl
          have c10 : wy.cell? ⟨w.heap.size, 10, none⟩ = some (.string m.cs) := (hMz.cell 10).trans rfl
          have c11 : wy.cell? ⟨w.heap.size, 11, none⟩ = some (.string m.cn) := (hMz.cell 11).trans rfl
          have c12 : wy.cell? ⟨w.heap.size, 12, none⟩ = some (.string m.ch) := (hMz.cell 12).trans rfl
          have c13 : wy.cell? ⟨w.heap.size, 13, none⟩ = some (.int .u64 m.nu) := (hMz.cell 13).trans rfl
          have c14 : wy.cell? ⟨w.heap.size, 14, none⟩ = some (.string m.bo) := (hMz.cell 14).trans rfl
          have c15 : wy.cell? ⟨w.heap.size, 15, none⟩ = some (.int .u64 m.wa) := (hMz.cell 15).trans rfl
          have c16 : wy.cell? ⟨w.heap.size, 16, none⟩ = some (.int .u64 m.fo) := (hMz.cell 16).trans rfl
          have c17 : wy.cell? ⟨w.heap.size, 17, none⟩ = some (.int .u64 m.un) := (hMz.cell 17).trans rfl
          have c18 : wy.cell? ⟨w.heap.size, 18, none⟩ = some (.int .u64 m.sq) := (hMz.cell 18).trans rfl
          have c20 : wy.cell? ⟨w.heap.size, 20, none⟩ = some (.int .i64 m.fe) := (hMz.cell 20).trans rfl
          have c21 : wy.cell? ⟨w.heap.size, 21, none⟩ = some (.int .i64 m.te) := (hMz.cell 21).trans rfl
          have c22 : wy.cell? ⟨w.heap.size, 22, none⟩ = some (.int .i64 m.cl) := (hMz.cell 22).trans rfl
          go_wp2_with (first | (refine wpList_build40 { m with pa := none, pl := 0, pc := 0, aa := some ⟨(w.heap.size + 1 + 1), 0, none⟩, al := m.al, ac := m.al } rfl rfl rfl ?_) | (refine wpList_storeM rfl rfl (w.heap.size + 1) { m with pa := none, pl := 0, pc := 0, aa := some ⟨(w.heap.size + 1 + 1), 0, none⟩, al := m.al, ac := m.al } zeroMsg rfl rfl hZy ?_))
          refine bodyPost_ret (v := .agg { m with pa := none, pl := 0, pc := 0, aa := some ⟨(w.heap.size + 1 + 1), 0, none⟩, al := m.al, ac := m.al }.cells) ?_ rfl ⟨{ m with pa := none, pl := 0, pc := 0, aa := some ⟨(w.heap.size + 1 + 1), 0, none⟩, al := m.al, ac := m.al }, rfl, ⟨by simp [hp0]; try simp, by simp [hpa], by simp [haa]⟩, rfl, rfl, rfl, fun i hi => absurd hi (Nat.not_lt_zero i), (hF.acks).setRow _ (fun b off e => by cases e; omega), below_setRow hBy _ _ (by omega)⟩
          exact results_cell_row (P := Try.prog) (p := 2) (ty := 40) (by kernel_rfl) _ _ (w.heap.size + 1) 40 _ (0, 0) _ rfl (setRow_heap _ _ _ _ _ _ hZy) Try.underlying40 rfl (by kernel_rfl)
  | some a =>
    rw [hpa] at h9
    go_enter Try.func10, Try.ntmps10
    go_wp2_with (first | (refine wpList_box26 (m := m) rfl rfl rfl ?_) | (refine wpList_alloc40 rfl rfl ?_))
    go_loopw [4] (fun i wr => ∃ k : Nat, i = .int .i64 k ∧ k ≤ m.pl ∧ MAt wr w.heap.size 26 m ∧ MAt wr (w.heap.size + 1) 40 zeroMsg ∧ PFill wr (w.heap.size + 1 + 1) m.pl M k ∧ Below w.heap.size w wr) (fun i _ => m.pl - (intOf i).toNat)
    case atStart => exact ⟨0, rfl, by omega, (Below.heap_alloc _ _ _ (by simp; omega)).trans (heap_alloc2_old w _ _), (Below.heap_alloc _ _ _ (by simp)).trans (heap_alloc2_new w _ _), by have := pfill_start ((w.alloc (.cells m.cells 26)).alloc (.cells zeroMsg.cells 40)) m.pl M; simpa using this, (((Below.refl _ _).alloc (Nat.le_refl _) _).alloc (by simp) _).alloc (by simp; omega) _⟩
    case round =>
      obtain ⟨k, rfl, hk, hMr, hZr, hF, hBr0⟩ := hrel
      obtain ⟨wz, hwz⟩ : ∃ wz, wz = wr := ⟨_, rfl⟩
      subst hwz
      have hc9 := (hMr.cell 9).trans h9
      by_cases hkp : k < m.pl
      · obtain ⟨b, off, ha, hl, hr⟩ := hP k hkp
        obtain ⟨r0, r1, r2, r3, r4, r5, r6, r7, r8⟩ := range_mem (range_below hr hBr0 hl)
        rw [← hpa, ha] at hc9
        clear hmp hma hr hP hA
        go_wp2_with fail
        refine (c20_any (M k) wz).mono ?_
        rintro e w2 ⟨rfl, hb2⟩
        have hF2 := hF.below hb2
        have hM2 := hMr.below hb2 hMr.lt
        have hZ2 := hZr.below hb2 hZr.lt
        have hB2 := hBr0.trans (hb2.mono (Nat.le_of_lt hMr.lt))
        have hroom : Room w2 (w.heap.size + 1 + 1) (k * 9) := ⟨hF2.room hkp⟩
        clear hb2
        go_wp2_with (first | (refine wpList_storeMem rfl rfl (w.heap.size + 1 + 1) (k * 9) (M k) rfl rfl ?hr ?_; case hr => exact hroom))
        exact ⟨⟨k + 1, by simp, by omega, hM2.setCells (by omega) _ _, hZ2.setCells (by omega) _ _, pfill_step hF2 hkp, below_setCells _ (by omega) _ _ _ _ hB2⟩, by simp [intOf]; omega⟩
      · obtain rfl : k = m.pl := by omega
        have hMz := hMr
        have hZz := hZr
        have hBz := hBr0
        have hlz : w.heap.size + 1 < wz.heap.size := hZr.lt
        have hPz := hF.path
        have hPl : ∀ b off, some (⟨w.heap.size + 1 + 1, 0, none⟩ : Addr) = some ⟨b, off, none⟩ → b < wz.heap.size := fun b off e => by cases e; exact hF.lt
        clear hMr hZr hBr0
        cases haa : m.aa with
        | none =>
          have ha0 := han haa
          have hc19 := (hMz.cell 19).trans h19
          rw [haa, ha0] at hc19
          clear hmp hma hA
          have d0 : m.cells[0]? = some (.int .u8 m.k) := rfl
          have d1 : m.cells[1]? = some (.string m.f) := rfl
          have d2 : m.cells[2]? = some (.string m.t) := rfl
          have d3 : m.cells[3]? = some (.string m.ts) := rfl
          have d4 : m.cells[4]? = some (.string m.tn) := rfl
          have d5 : m.cells[5]? = some (.string m.rs) := rfl
          have d6 : m.cells[6]? = some (.string m.rp) := rfl
          have d7 : m.cells[7]? = some (.int .u8 m.mo) := rfl
          have d8 : m.cells[8]? = some (.int .i64 m.bg) := rfl
          have d10 : m.cells[10]? = some (.string m.cs) := rfl
          have d11 : m.cells[11]? = some (.string m.cn) := rfl
          have d12 : m.cells[12]? = some (.string m.ch) := rfl
          have d13 : m.cells[13]? = some (.int .u64 m.nu) := rfl
          have d14 : m.cells[14]? = some (.string m.bo) := rfl
          have d15 : m.cells[15]? = some (.int .u64 m.wa) := rfl
          have d16 : m.cells[16]? = some (.int .u64 m.fo) := rfl
          have d17 : m.cells[17]? = some (.int .u64 m.un) := rfl
          have d18 : m.cells[18]? = some (.int .u64 m.sq) := rfl
          have d20 : m.cells[20]? = some (.int .i64 m.fe) := rfl
          have d21 : m.cells[21]? = some (.int .i64 m.te) := rfl
          have d22 : m.cells[22]? = some (.int .i64 m.cl) := rfl
          have c0 : wz.cell? ⟨w.heap.size, 0, none⟩ = some (.int .u8 m.k) := (hMz.cell 0).trans rfl
          have c1 : wz.cell? ⟨w.heap.size, 1, none⟩ = some (.string m.f) := (hMz.cell 1).trans rfl
          have c2 : wz.cell? ⟨w.heap.size, 2, none⟩ = some (.string m.t) := (hMz.cell 2).trans rfl
          have c3 : wz.cell? ⟨w.heap.size, 3, none⟩ = some (.string m.ts) := (hMz.cell 3).trans rfl
          have c4 : wz.cell? ⟨w.heap.size, 4, none⟩ = some (.string m.tn) := (hMz.cell 4).trans rfl
          have c5 : wz.cell? ⟨w.heap.size, 5, none⟩ = some (.string m.rs) := (hMz.cell 5).trans rfl
          have c6 : wz.cell? ⟨w.heap.size, 6, none⟩ = some (.string m.rp) := (hMz.cell 6).trans rfl
          have c7 : wz.cell? ⟨w.heap.size, 7, none⟩ = some (.int .u8 m.mo) := (hMz.cell 7).trans rfl
          have c8 : wz.cell? ⟨w.heap.size, 8, none⟩ = some (.int .i64 m.bg) := (hMz.cell 8).trans rfl
          have c10 : wz.cell? ⟨w.heap.size, 10, none⟩ = some (.string m.cs) := (hMz.cell 10).trans rfl
          have c11 : wz.cell? ⟨w.heap.size, 11, none⟩ = some (.string m.cn) := (hMz.cell 11).trans rfl
          have c12 : wz.cell? ⟨w.heap.size, 12, none⟩ = some (.string m.ch) := (hMz.cell 12).trans rfl
          have c13 : wz.cell? ⟨w.heap.size, 13, none⟩ = some (.int .u64 m.nu) := (hMz.cell 13).trans rfl
          have c14 : wz.cell? ⟨w.heap.size, 14, none⟩ = some (.string m.bo) := (hMz.cell 14).trans rfl
          have c15 : wz.cell? ⟨w.heap.size, 15, none⟩ = some (.int .u64 m.wa) := (hMz.cell 15).trans rfl
          have c16 : wz.cell? ⟨w.heap.size, 16, none⟩ = some (.int .u64 m.fo) := (hMz.cell 16).trans rfl
          have c17 : wz.cell? ⟨w.heap.size, 17, none⟩ = some (.int .u64 m.un) := (hMz.cell 17).trans rfl
          have c18 : wz.cell? ⟨w.heap.size, 18, none⟩ = some (.int .u64 m.sq) := (hMz.cell 18).trans rfl
          have c20 : wz.cell? ⟨w.heap.size, 20, none⟩ = some (.int .i64 m.fe) := (hMz.cell 20).trans rfl
          have c21 : wz.cell? ⟨w.heap.size, 21, none⟩ = some (.int .i64 m.te) := (hMz.cell 21).trans rfl
          have c22 : wz.cell? ⟨w.heap.size, 22, none⟩ = some (.int .i64 m.cl) := (hMz.cell 22).trans rfl
          go_wp2_with (first | (refine wpList_box26 (m := m) rfl rfl rfl ?_) | (refine wpList_alloc40 rfl rfl ?_) | (refine wpList_build40 { m with pa := some ⟨w.heap.size + 1 + 1, 0, none⟩, pl := m.pl, pc := m.pl, aa := none, al := 0, ac := 0 } rfl rfl rfl ?_) | (refine wpList_storeM rfl rfl (w.heap.size + 1) { m with pa := some ⟨w.heap.size + 1 + 1, 0, none⟩, pl := m.pl, pc := m.pl, aa := none, al := 0, ac := 0 } zeroMsg rfl rfl hZz ?_))
          refine bodyPost_ret (v := .agg { m with pa := some ⟨w.heap.size + 1 + 1, 0, none⟩, pl := m.pl, pc := m.pl, aa := none, al := 0, ac := 0 }.cells) ?_ rfl ⟨{ m with pa := some ⟨w.heap.size + 1 + 1, 0, none⟩, pl := m.pl, pc := m.pl, aa := none, al := 0, ac := 0 }, rfl, ⟨by simp [ha0], by simp [hpa], by simp [haa]⟩, rfl, rfl, rfl, (hPz).setRow _ (fun b off e => by cases e; omega), fun i hi => absurd hi (Nat.not_lt_zero i), below_setRow hBz _ _ (by omega)⟩
          exact results_cell_row (P := Try.prog) (p := 2) (ty := 40) (by kernel_rfl) _ _ (w.heap.size + 1) 40 _ (0, 0) _ rfl (setRow_heap _ _ _ _ _ _ hZz) Try.underlying40 rfl (by kernel_rfl)
        | some a2 =>
          have hc19 := (hMz.cell 19).trans h19
          rw [haa] at hc19
          go_wp2_with fail
          go_loopw [6] (fun i wr => ∃ k : Nat, i = .int .i64 k ∧ k ≤ m.al ∧ AFill wr wz.heap.size m.al U k ∧ Below wz.heap.size wz wr) (fun i _ => m.al - (intOf i).toNat)
          case atStart => exact ⟨0, rfl, by omega, afill_start wz m.al U, (Below.refl _ _).alloc (Nat.le_refl _) _⟩
          case round =>
            obtain ⟨k, rfl, hk, hF, hBr⟩ := hrel
            obtain ⟨wy, hwy⟩ : ∃ wy, wy = wr := ⟨_, rfl⟩
            subst hwy
            have hMy := hMz.below hBr hMz.lt
            have hZy := hZz.below hBr hZz.lt
            have hBy := hBz.trans (hBr.mono hBz.size)
            clear hc19
            have hc19 := (hMy.cell 19).trans h19
            rw [haa] at hc19
            by_cases hkn : k < m.al
            · obtain ⟨b, off, ha, hl, hr⟩ := hA k hkn
              have hr' := (hBy.cell (p := ⟨b, _, none⟩) hl).trans hr
              rw [← haa, ha] at hc19
              obtain ⟨v, hv, hz⟩ := hF.cell hkn
              clear hmp hma hr hP hA
              go_wp2_with fail
              exact ⟨⟨k + 1, by simp, by omega, afill_step hF, hBr.setCell (by simp) _⟩, by simp [intOf]; omega⟩
            · obtain rfl : k = m.al := by omega
              clear hmp hma hA
              have hMz := hMy
              have d0 : m.cells[0]? = some (.int .u8 m.k) := rfl
              have d1 : m.cells[1]? = some (.string m.f) := rfl
              have d2 : m.cells[2]? = some (.string m.t) := rfl
              have d3 : m.cells[3]? = some (.string m.ts) := rfl
              have d4 : m.cells[4]? = some (.string m.tn) := rfl
              have d5 : m.cells[5]? = some (.string m.rs) := rfl
              have d6 : m.cells[6]? = some (.string m.rp) := rfl
              have d7 : m.cells[7]? = some (.int .u8 m.mo) := rfl
              have d8 : m.cells[8]? = some (.int .i64 m.bg) := rfl
              have d10 : m.cells[10]? = some (.string m.cs) := rfl
              have d11 : m.cells[11]? = some (.string m.cn) := rfl
              have d12 : m.cells[12]? = some (.string m.ch) := rfl
              have d13 : m.cells[13]? = some (.int .u64 m.nu) := rfl
              have d14 : m.cells[14]? = some (.string m.bo) := rfl
              have d15 : m.cells[15]? = some (.int .u64 m.wa) := rfl
              have d16 : m.cells[16]? = some (.int .u64 m.fo) := rfl
              have d17 : m.cells[17]? = some (.int .u64 m.un) := rfl
              have d18 : m.cells[18]? = some (.int .u64 m.sq) := rfl
              have d20 : m.cells[20]? = some (.int .i64 m.fe) := rfl
              have d21 : m.cells[21]? = some (.int .i64 m.te) := rfl
              have d22 : m.cells[22]? = some (.int .i64 m.cl) := rfl
              have c0 : wy.cell? ⟨w.heap.size, 0, none⟩ = some (.int .u8 m.k) := (hMz.cell 0).trans rfl
              have c1 : wy.cell? ⟨w.heap.size, 1, none⟩ = some (.string m.f) := (hMz.cell 1).trans rfl
              have c2 : wy.cell? ⟨w.heap.size, 2, none⟩ = some (.string m.t) := (hMz.cell 2).trans rfl
              have c3 : wy.cell? ⟨w.heap.size, 3, none⟩ = some (.string m.ts) := (hMz.cell 3).trans rfl
              have c4 : wy.cell? ⟨w.heap.size, 4, none⟩ = some (.string m.tn) := (hMz.cell 4).trans rfl
              have c5 : wy.cell? ⟨w.heap.size, 5, none⟩ = some (.string m.rs) := (hMz.cell 5).trans rfl
              have c6 : wy.cell? ⟨w.heap.size, 6, none⟩ = some (.string m.rp) := (hMz.cell 6).trans rfl
              have c7 : wy.cell? ⟨w.heap.size, 7, none⟩ = some (.int .u8 m.mo) := (hMz.cell 7).trans rfl
              have c8 : wy.cell? ⟨w.heap.size, 8, none⟩ = some (.int .i64 m.bg) := (hMz.cell 8).trans rfl
              have c10 : wy.cell? ⟨w.heap.size, 10, none⟩ = some (.string m.cs) := (hMz.cell 10).trans rfl
              have c11 : wy.cell? ⟨w.heap.size, 11, none⟩ = some (.string m.cn) := (hMz.cell 11).trans rfl
              have c12 : wy.cell? ⟨w.heap.size, 12, none⟩ = some (.string m.ch) := (hMz.cell 12).trans rfl
              have c13 : wy.cell? ⟨w.heap.size, 13, none⟩ = some (.int .u64 m.nu) := (hMz.cell 13).trans rfl
              have c14 : wy.cell? ⟨w.heap.size, 14, none⟩ = some (.string m.bo) := (hMz.cell 14).trans rfl
              have c15 : wy.cell? ⟨w.heap.size, 15, none⟩ = some (.int .u64 m.wa) := (hMz.cell 15).trans rfl
              have c16 : wy.cell? ⟨w.heap.size, 16, none⟩ = some (.int .u64 m.fo) := (hMz.cell 16).trans rfl
              have c17 : wy.cell? ⟨w.heap.size, 17, none⟩ = some (.int .u64 m.un) := (hMz.cell 17).trans rfl
              have c18 : wy.cell? ⟨w.heap.size, 18, none⟩ = some (.int .u64 m.sq) := (hMz.cell 18).trans rfl
              have c20 : wy.cell? ⟨w.heap.size, 20, none⟩ = some (.int .i64 m.fe) := (hMz.cell 20).trans rfl
              have c21 : wy.cell? ⟨w.heap.size, 21, none⟩ = some (.int .i64 m.te) := (hMz.cell 21).trans rfl
              have c22 : wy.cell? ⟨w.heap.size, 22, none⟩ = some (.int .i64 m.cl) := (hMz.cell 22).trans rfl
              go_wp2_with (first | (refine wpList_build40 { m with pa := some ⟨w.heap.size + 1 + 1, 0, none⟩, pl := m.pl, pc := m.pl, aa := some ⟨wz.heap.size, 0, none⟩, al := m.al, ac := m.al } rfl rfl rfl ?_) | (refine wpList_storeM rfl rfl (w.heap.size + 1) { m with pa := some ⟨w.heap.size + 1 + 1, 0, none⟩, pl := m.pl, pc := m.pl, aa := some ⟨wz.heap.size, 0, none⟩, al := m.al, ac := m.al } zeroMsg rfl rfl hZy ?_))
              refine bodyPost_ret (v := .agg { m with pa := some ⟨w.heap.size + 1 + 1, 0, none⟩, pl := m.pl, pc := m.pl, aa := some ⟨wz.heap.size, 0, none⟩, al := m.al, ac := m.al }.cells) ?_ rfl ⟨{ m with pa := some ⟨w.heap.size + 1 + 1, 0, none⟩, pl := m.pl, pc := m.pl, aa := some ⟨wz.heap.size, 0, none⟩, al := m.al, ac := m.al }, rfl, ⟨by simp, by simp [hpa], by simp [haa]⟩, rfl, rfl, rfl, (hPz.below hBr hPl).setRow _ (fun b off e => by cases e; omega), (hF.acks).setRow _ (fun b off e => by cases e; omega), below_setRow hBy _ _ (by omega)⟩
              exact results_cell_row (P := Try.prog) (p := 2) (ty := 40) (by kernel_rfl) _ _ (w.heap.size + 1) 40 _ (0, 0) _ rfl (setRow_heap _ _ _ _ _ _ hZy) Try.underlying40 rfl (by kernel_rfl)
end Go.Proofs.Qxb6616088a
