/-
  From the reading of a message by value to its cells and its two rows.
-/
import Derived.Test.Qxb6616088aBig
import Derived.ProofKit
import Derived.OpenShut
import Derived.ShutString
import Derived.ChangeOld
import Derived.Deep.Slices
namespace Go.Proofs.Qxb6616088a
open Go.ChangeShapes Go.WideShapes Go.ChangeAt Go.RowKit

theorem cellsZ : Try.prog.cellsOf 26 = 23 := by kernel_rfl
theorem cellsZm : Try.prog.cellsOf 57 = 9 := by kernel_rfl
theorem cells9' : Try.prog.cellsOf 9 = 1 := by kernel_rfl
theorem cells5' : Try.prog.cellsOf 5 = 1 := by kernel_rfl
theorem cells2' : Try.prog.cellsOf 2 = 1 := by kernel_rfl
theorem cells23' : Try.prog.cellsOf 23 = 1 := by kernel_rfl
theorem cells22' : Try.prog.cellsOf 22 = 1 := by kernel_rfl
theorem cells24' : Try.prog.cellsOf 24 = 1 := by kernel_rfl

theorem add_mid' (b off k : Nat) : (⟨b, off, none⟩ : Addr).add k = ⟨b, off + k, none⟩ := by
  cases k <;> simp [Addr.add]
theorem cell_block_lt {W : World} {x o : Nat} {v : Value} (h0 : W.cell? ⟨x, o, none⟩ = some v) : x < W.heap.size := by
  simp only [World.cell?] at h0
  by_cases hb : x < W.heap.size
  · exact hb
  · rw [Array.getElem?_eq_none (by omega)] at h0
    cases h0

section
variable {H : Type} {enc : TypeId × Value → H} {W : World} {n : Nat} {l : List Value} {xs : List (DataW H × List MemPlace)}
theorem field_one (t : TypeId) (j : Nat) (hc : Try.prog.cellsOf t = 1) (hj : j < l.length) (hx : j < xs.length)
    (h : DataW.trod enc Try.prog W 0 (fun _ => true) true n t ((l.drop j).take (Try.prog.cellsOf t)) = xs[j]?) : ∃ v x, l[j]? = some v ∧ DataW.trod enc Try.prog W 0 (fun _ => true) true n t [v] = some x := by
  rw [hc] at h
  refine ⟨l[j], xs[j], List.getElem?_eq_getElem hj, ?_⟩
  have e : (l.drop j).take 1 = [l[j]] := by rw [List.drop_eq_getElem_cons hj, List.take_succ_cons, List.take_zero]
  rw [List.getElem?_eq_getElem hx, e] at h
  exact h
theorem field_str (j : Nat) (hj : j < l.length) (hx : j < xs.length)
    (h : DataW.trod enc Try.prog W 0 (fun _ => true) true n 9 ((l.drop j).take (Try.prog.cellsOf 9)) = xs[j]?) : ∃ s, l[j]? = some (.string s) := by
  obtain ⟨v, x, hv, ht⟩ := field_one 9 j cells9' hj hx h
  obtain ⟨s, hs, _⟩ := DataW.trod_string Try.underlying9 ht
  simp at hs
  exact ⟨s, by rw [hv, hs]⟩
theorem field_int (k : IntKind) (t : TypeId) (hu : Try.prog.underlying t = some (.int k)) (hc : Try.prog.cellsOf t = 1) (j : Nat) (hj : j < l.length) (hx : j < xs.length)
    (h : DataW.trod enc Try.prog W 0 (fun _ => true) true n t ((l.drop j).take (Try.prog.cellsOf t)) = xs[j]?) : ∃ z, l[j]? = some (.int k z) := by
  obtain ⟨v, x, hv, ht⟩ := field_one t j hc hj hx h
  obtain ⟨z, hs, _⟩ := DataW.trod_int hu ht
  simp at hs
  exact ⟨z, by rw [hv, hs]⟩

theorem mem_at {x : DataW H × List MemPlace} (h : DataW.trod enc Try.prog W 0 (fun _ => true) true n 57 l = some x) : ∃ m : Mem, l = m.cells := by
  obtain ⟨xs, k, _, _, hl, hxl, hf⟩ := DataW.trod_struct Try.underlying57 h
  rw [cellsZm] at hl
  have hxl' : xs.length = 9 := hxl
  obtain ⟨v0, g0⟩ := field_str 0 (by omega) (by omega) (hf 0 _ rfl)
  obtain ⟨v1, g1⟩ := field_str 1 (by omega) (by omega) (hf 1 _ rfl)
  obtain ⟨v2, g2⟩ := field_int .i64 2 Try.underlying2 cells2' 2 (by omega) (by omega) (hf 2 _ rfl)
  obtain ⟨v3, g3⟩ := field_str 3 (by omega) (by omega) (hf 3 _ rfl)
  obtain ⟨v4, g4⟩ := field_str 4 (by omega) (by omega) (hf 4 _ rfl)
  obtain ⟨v5, g5⟩ := field_str 5 (by omega) (by omega) (hf 5 _ rfl)
  obtain ⟨v6, g6⟩ := field_str 6 (by omega) (by omega) (hf 6 _ rfl)
  obtain ⟨v7, g7⟩ := field_str 7 (by omega) (by omega) (hf 7 _ rfl)
  obtain ⟨v8, g8⟩ := field_int .u64 23 Try.underlying23 cells23' 8 (by omega) (by omega) (hf 8 _ rfl)
  refine ⟨⟨v0, v1, v2, v3, v4, v5, v6, v7, v8⟩, ?_⟩
  clear hf h
  match l, hl with
  | [c0, c1, c2, c3, c4, c5, c6, c7, c8], _ =>
    obtain rfl := Option.some.inj g0
    obtain rfl := Option.some.inj g1
    obtain rfl := Option.some.inj g2
    obtain rfl := Option.some.inj g3
    obtain rfl := Option.some.inj g4
    obtain rfl := Option.some.inj g5
    obtain rfl := Option.some.inj g6
    obtain rfl := Option.some.inj g7
    obtain rfl := Option.some.inj g8
    rfl

theorem path_at {v : Value} {x : DataW H × List MemPlace} (h : DataW.trod enc Try.prog W 0 (fun _ => true) true n 22 [v] = some x) :
    ∃ (a : Option Addr) (len cap : Nat) (M : Nat → Mem), v = .slice a len cap ∧ PathAt W a len M ∧ (a = none → len = 0) := by
  rcases Deep.open_slice Try.underlying22 h with ⟨hcs, _⟩ | ⟨a, len, cap, m, k, D, Pl, hcs, _, hl, hm, hmm, _, hel⟩
  · simp at hcs
    subst hcs
    exact ⟨none, 0, 0, fun _ => ⟨ByteArray.empty, ByteArray.empty, 0, ByteArray.empty, ByteArray.empty, ByteArray.empty, ByteArray.empty, ByteArray.empty, 0⟩, rfl, fun i hi => absurd hi (Nat.not_lt_zero i), fun _ => rfl⟩
  · simp at hcs
    subst hcs
    simp at hmm
    subst hmm
    rw [cellsZm] at hel
    have each : ∀ i, ∃ q : Mem, i < len → ∃ b off, (some a) = some (⟨b, off, none⟩ : Addr) ∧ b < W.heap.size ∧ W.rangeAt b (off + i * 9) q.cells := by
      intro i
      by_cases hi : i < len
      · obtain ⟨cs', h1, h2⟩ := hel i (by omega)
        obtain ⟨_, hlen, hcell⟩ := World.cells?_some h1
        obtain ⟨q, rfl⟩ := mem_at h2
        refine ⟨q, fun _ => ?_⟩
        obtain ⟨b, off, spot⟩ := a
        have hspot : spot = none := by
          obtain ⟨cs0, k1, k2⟩ := hel 0 (by omega)
          obtain ⟨_, hlen0, hcell0⟩ := World.cells?_some k1
          obtain ⟨q0, rfl⟩ := mem_at k2
          have h0 := World.cell?_spot (v := .string q0.s0) ((hcell0 0 (by omega)).trans rfl)
          simpa [Addr.add] using h0
        subst hspot
        rw [add_mid'] at hcell
        refine ⟨b, off, rfl, ?_, ?_⟩
        · have h0 := hcell 0 (by omega)
          rw [add_mid'] at h0
          exact cell_block_lt (h0.trans rfl)
        · intro j v hj
          have hj9 : j < 9 := by
            obtain ⟨hj', _⟩ := List.getElem?_eq_some_iff.1 hj
            exact hj'
          have h0 := hcell j hj9
          rw [add_mid'] at h0
          exact h0.trans hj
      · exact ⟨⟨ByteArray.empty, ByteArray.empty, 0, ByteArray.empty, ByteArray.empty, ByteArray.empty, ByteArray.empty, ByteArray.empty, 0⟩, fun h => absurd h hi⟩
    exact ⟨some a, len, _, fun i => (each i).choose, rfl, fun i hi => (each i).choose_spec hi, fun h => by cases h⟩

theorem acks_at {v : Value} {x : DataW H × List MemPlace} (h : DataW.trod enc Try.prog W 0 (fun _ => true) true n 24 [v] = some x) :
    ∃ (a : Option Addr) (len cap : Nat) (U : Nat → Int), v = .slice a len cap ∧ AcksAt W a len U ∧ (a = none → len = 0) := by
  rcases Deep.open_slice1 Try.underlying24 cells23' h with ⟨hcs, _⟩ | ⟨a, len, cap, m, k, V, D, Pl, hcs, _, hl, hm, hmm, _, hel⟩
  · simp at hcs
    subst hcs
    exact ⟨none, 0, 0, fun _ => 0, rfl, fun i hi => absurd hi (Nat.not_lt_zero i), fun _ => rfl⟩
  · simp at hcs
    subst hcs
    simp at hmm
    subst hmm
    have each : ∀ i, ∃ q : Int, i < len → ∃ b off, (some a) = some (⟨b, off, none⟩ : Addr) ∧ b < W.heap.size ∧ W.cell? ⟨b, off + i, none⟩ = some (.int .u64 q) := by
      intro i
      by_cases hi : i < len
      · obtain ⟨h1, h2⟩ := hel i (by omega)
        obtain ⟨z, hz, _⟩ := DataW.trod_int Try.underlying23 h2
        simp at hz
        rw [hz] at h1
        refine ⟨z, fun _ => ?_⟩
        obtain ⟨b, off, spot⟩ := a
        have hspot : spot = none := by
          have h0 := World.cell?_spot (hel 0 (by omega)).1
          simpa [Addr.add] using h0
        subst hspot
        rw [add_mid'] at h1
        exact ⟨b, off, rfl, cell_block_lt h1, h1⟩
      · exact ⟨0, fun h => absurd h hi⟩
    exact ⟨some a, len, _, fun i => (each i).choose, rfl, fun i hi => (each i).choose_spec hi, fun h => by cases h⟩

theorem open_msg {cs : Array Value} {d : DataW H} {p : List MemPlace} (h : DataW.Trod enc Try.prog W 0 (fun _ => true) true 26 (.agg cs) d p) :
    ∃ (m : Msg) (M : Nat → Mem) (U : Nat → Int), cs = m.cells ∧ PathAt W m.pa m.pl M ∧ AcksAt W m.aa m.al U ∧ (m.pa = none → m.pl = 0) ∧ (m.aa = none → m.al = 0) := by
  obtain ⟨fuel, h⟩ := h
  obtain ⟨xs, k, _, _, hl0, hxl, hf0⟩ := DataW.trod_struct Try.underlying26 h
  obtain ⟨l⟩ := cs
  have hl : l.length = 23 := by rw [← cellsZ]; exact hl0
  have hxl' : xs.length = 23 := hxl
  have hf : ∀ (i : Nat) (f : Field), _ = some f → DataW.trod enc Try.prog W 0 (fun _ => true) true k f.type ((l.drop f.offset).take (Try.prog.cellsOf f.type)) = xs[i]? := hf0
  obtain ⟨v0, g0⟩ := field_int .u8 5 Try.underlying5 cells5' 0 (by omega) (by omega) (hf 0 _ rfl)
  obtain ⟨v1, g1⟩ := field_str 1 (by omega) (by omega) (hf 1 _ rfl)
  obtain ⟨v2, g2⟩ := field_str 2 (by omega) (by omega) (hf 2 _ rfl)
  obtain ⟨v3, g3⟩ := field_str 3 (by omega) (by omega) (hf 3 _ rfl)
  obtain ⟨v4, g4⟩ := field_str 4 (by omega) (by omega) (hf 4 _ rfl)
  obtain ⟨v5, g5⟩ := field_str 5 (by omega) (by omega) (hf 5 _ rfl)
  obtain ⟨v6, g6⟩ := field_str 6 (by omega) (by omega) (hf 6 _ rfl)
  obtain ⟨v7, g7⟩ := field_int .u8 5 Try.underlying5 cells5' 7 (by omega) (by omega) (hf 7 _ rfl)
  obtain ⟨v8, g8⟩ := field_int .i64 2 Try.underlying2 cells2' 8 (by omega) (by omega) (hf 8 _ rfl)
  obtain ⟨p0, px, gp0, hp0⟩ := field_one 22 9 cells22' (by omega) (by omega) (hf 9 _ rfl)
  obtain ⟨pa, pl, pc, M, rfl, hP, hpn⟩ := path_at hp0
  obtain ⟨v10, g10⟩ := field_str 10 (by omega) (by omega) (hf 10 _ rfl)
  obtain ⟨v11, g11⟩ := field_str 11 (by omega) (by omega) (hf 11 _ rfl)
  obtain ⟨v12, g12⟩ := field_str 12 (by omega) (by omega) (hf 12 _ rfl)
  obtain ⟨v13, g13⟩ := field_int .u64 23 Try.underlying23 cells23' 13 (by omega) (by omega) (hf 13 _ rfl)
  obtain ⟨v14, g14⟩ := field_str 14 (by omega) (by omega) (hf 14 _ rfl)
  obtain ⟨v15, g15⟩ := field_int .u64 23 Try.underlying23 cells23' 15 (by omega) (by omega) (hf 15 _ rfl)
  obtain ⟨v16, g16⟩ := field_int .u64 23 Try.underlying23 cells23' 16 (by omega) (by omega) (hf 16 _ rfl)
  obtain ⟨v17, g17⟩ := field_int .u64 23 Try.underlying23 cells23' 17 (by omega) (by omega) (hf 17 _ rfl)
  obtain ⟨v18, g18⟩ := field_int .u64 23 Try.underlying23 cells23' 18 (by omega) (by omega) (hf 18 _ rfl)
  obtain ⟨a0, ax, ga0, ha0⟩ := field_one 24 19 cells24' (by omega) (by omega) (hf 19 _ rfl)
  obtain ⟨aa, al, ac, U, rfl, hA, han⟩ := acks_at ha0
  obtain ⟨v20, g20⟩ := field_int .i64 2 Try.underlying2 cells2' 20 (by omega) (by omega) (hf 20 _ rfl)
  obtain ⟨v21, g21⟩ := field_int .i64 2 Try.underlying2 cells2' 21 (by omega) (by omega) (hf 21 _ rfl)
  obtain ⟨v22, g22⟩ := field_int .i64 2 Try.underlying2 cells2' 22 (by omega) (by omega) (hf 22 _ rfl)
  refine ⟨⟨v0, v1, v2, v3, v4, v5, v6, v7, v8, pa, pl, pc, v10, v11, v12, v13, v14, v15, v16, v17, v18, aa, al, ac, v20, v21, v22⟩, M, U, ?_, hP, hA, hpn, han⟩
  clear hf hf0 h hp0 ha0
  match l, hl with
  | [c0, c1, c2, c3, c4, c5, c6, c7, c8, c9, c10, c11, c12, c13, c14, c15, c16, c17, c18, c19, c20, c21, c22], _ =>
    obtain rfl := Option.some.inj g0
    obtain rfl := Option.some.inj g1
    obtain rfl := Option.some.inj g2
    obtain rfl := Option.some.inj g3
    obtain rfl := Option.some.inj g4
    obtain rfl := Option.some.inj g5
    obtain rfl := Option.some.inj g6
    obtain rfl := Option.some.inj g7
    obtain rfl := Option.some.inj g8
    obtain rfl := Option.some.inj gp0
    obtain rfl := Option.some.inj g10
    obtain rfl := Option.some.inj g11
    obtain rfl := Option.some.inj g12
    obtain rfl := Option.some.inj g13
    obtain rfl := Option.some.inj g14
    obtain rfl := Option.some.inj g15
    obtain rfl := Option.some.inj g16
    obtain rfl := Option.some.inj g17
    obtain rfl := Option.some.inj g18
    obtain rfl := Option.some.inj ga0
    obtain rfl := Option.some.inj g20
    obtain rfl := Option.some.inj g21
    obtain rfl := Option.some.inj g22
    rfl
end
end Go.Proofs.Qxb6616088a
