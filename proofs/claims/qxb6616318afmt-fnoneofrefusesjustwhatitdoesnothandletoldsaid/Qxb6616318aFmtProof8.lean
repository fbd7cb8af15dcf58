/-
  THE TOLD CARD 'Rows.FnOneOfRefusesJustWhatItDoesNotHandleToldSaid', PROVED.
-/
import Derived.Test.Qxb6616318aFmtLaw
import Derived.Test.Qxb6616318aFmtCards
import Derived.ProofKit
import Derived.OpenShut
import Derived.ShutString
import Derived.ChangeOld
import Derived.Deep.Slices
import Derived.Stop.JoinedAt
import Derived.Stop.JoinedTold
import Derived.SevenToldRow
namespace Go.Proofs.Qxb6616318aFmt
open Go.ChangeShapes Go.WideShapes Go.ChangeAt Go.RowKit Go.Kit
open Go.Extern.Stop Go.Stop Go.Extern

theorem cells9' : Tryf.prog.cellsOf 9 = 1 := by kernel_rfl
theorem add_mid' (b off k : Nat) : (⟨b, off, none⟩ : Addr).add k = ⟨b, off + k, none⟩ := by
  cases k <;> simp [Addr.add]
theorem cell_block_lt {W : World} {x o : Nat} {v : Value} (h0 : W.cell? ⟨x, o, none⟩ = some v) : x < W.heap.size := by
  simp only [World.cell?] at h0
  by_cases hb : x < W.heap.size
  · exact hb
  · rw [Array.getElem?_eq_none (by omega)] at h0
    cases h0

theorem open_strs {H : Type} {enc : TypeId × Value → H} {W : World} {a0 : Option Addr} {len cap : Nat} {d : DataW H} {p : List MemPlace}
    (h : DataW.Trod enc Tryf.prog W 0 (fun _ => true) true 22 (.slice a0 len cap) d p) :
    (a0 = none ∧ len = 0 ∧ cap = 0) ∨ ∃ (ad : Addr) (xs : List ByteArray), a0 = some ad ∧ len = xs.length ∧ StrsAt W (some ad) xs ∧ (∀ (j : Nat) x, xs[j]? = some x → x.size ≤ 9223372036854775807) ∧ xs.length ≤ 9223372036854775807 := by
  obtain ⟨fuel, h⟩ := h
  rcases Deep.open_slice1 Tryf.underlying22 cells9' h with ⟨hcs, _⟩ | ⟨a, l, c, m, k, V, D, Pl, hcs, _, hl, hm, hmm, _, hel⟩
  · simp [Value.cells] at hcs
    exact Or.inl hcs
  · right
    simp [Value.cells] at hcs
    obtain ⟨rfl, rfl, rfl⟩ := hcs
    simp at hmm
    subst hmm
    have each : ∀ i, ∃ s : ByteArray, i < len → V i = .string s ∧ s.size ≤ maxLen := fun i => by
      by_cases hi : i < len
      · obtain ⟨s, hs, _, hsz⟩ := DataW.trod_string Tryf.underlying9 (hel i (by omega)).2
        exact ⟨s, fun _ => ⟨by simpa using hs, hsz⟩⟩
      · exact ⟨ByteArray.empty, fun h => absurd h hi⟩
    obtain ⟨b, off, spot⟩ := a
    refine ⟨⟨b, off, spot⟩, (List.range len).map fun i => (each i).choose, rfl, by simp, ?_, ?_, by unfold maxLen at hm; simp; omega⟩
    · intro j x hj
      rw [List.getElem?_map] at hj
      obtain ⟨i, hi, rfl⟩ := Option.map_eq_some_iff.1 hj
      obtain ⟨hj1, hj2⟩ := List.getElem?_eq_some_iff.1 hi
      simp at hj1 hj2
      subst hj2
      have hspot : spot = none := by
        have h0 := World.cell?_spot (hel 0 (by omega)).1
        simpa [Addr.add] using h0
      subst hspot
      have h1 := (hel j (by omega)).1
      rw [add_mid', ((each j).choose_spec hj1).1] at h1
      exact ⟨b, off, rfl, cell_block_lt h1, h1⟩
    · intro j x hj
      rw [List.getElem?_map] at hj
      obtain ⟨i, hi, rfl⟩ := Option.map_eq_some_iff.1 hj
      obtain ⟨hj1, hj2⟩ := List.getElem?_eq_some_iff.1 hi
      simp at hj1 hj2
      subst hj2
      have h2 := ((each j).choose_spec hj1).2
      unfold maxLen at h2
      exact h2

theorem own8 : ownKnob Tryf.prog.godebug = none := by kernel_rfl
theorem laidOut8 : laidOutB Tryf.pinned.checked.prog = true := by kernel_rfl
theorem laidOut8' : laidOutB Tryf.prog = true := by kernel_rfl
theorem stops8 : Tryf.pinned.checked.prog.stops = ["fmt.errorf"] := by kernel_rfl
theorem stopKnobs8 : Tryf.pinned.checked.prog.stopKnobs = [] := by kernel_rfl
theorem quiet8 (os : Os) : Stop.quiet Tryf.pinned.checked.prog os := by
  intro k hk
  rw [stopKnobs8] at hk
  cases hk

set_option maxRecDepth 100000 in
theorem told_lifted (os : Os) (started : os.Started) (H : Type) (enc : TypeId × Value → H) :
    ReturnsInTold none {} Tryf.checked os 3 .any Input.okWide ((OpenSpec.ofChange Rows.fnOneOfRefusesJustWhatItDoesNotHandleSpec).preRow enc Tryf.prog Tryf.f3 [] false []) (fun F => ((OpenSpec.ofChange Rows.fnOneOfRefusesJustWhatItDoesNotHandleSpec).at F).post enc Tryf.prog Tryf.f3 false true false false) (aloneAtReturn Tryf.prog) nothingAlways := by
  refine returnsInTold_of_row (C := Tryf.checked) (s := OpenSpec.ofChange Rows.fnOneOfRefusesJustWhatItDoesNotHandleSpec) (by kernel_rfl) own8 started (by kernel_rfl) Tryf.func3
    (OpenSpec.witness_stopped (enc := enc) (C := Tryf.checked) false ⟨#[], #[.string ByteArray.empty, .slice none 0 0, .string ByteArray.empty, .int .i64 0], []⟩ 8 (by kernel_rfl) (by kernel_rfl) (by kernel_rfl) (by kernel_rfl)) ?_
  intro F W base args ds gs before _ hF hval0 hW _ _ _ _ _
  have hval : ∀ (j : Nat) t v, Tryf.f3.params[j]? = some t → args[j]? = some v → Value.okWide Tryf.prog W .any base t v := hval0
  have hW' := hW
  obtain ⟨p, q, hA0, hV, rfl, hfz, hnd⟩ := hW
  have hA : DataW.TrodAll enc Tryf.prog W 0 (fun _ => true) true Tryf.f3.params.toList args.toList ds p := hA0
  rw [Tryf.params3] at hA hval
  obtain ⟨v0, vs0, d0, ds0, p0, q0, hargs, rfl, rfl, h0, r0⟩ := trodAll_cons hA
  obtain ⟨v1, vs1, d1, ds1, p1, q1, rfl, rfl, rfl, h1, r1⟩ := trodAll_cons r0
  obtain ⟨v2, vs2, d2, ds2, p2, q2, rfl, rfl, rfl, h2, r2⟩ := trodAll_cons r1
  obtain ⟨v3, vs3, d3, ds3, p3, q3, rfl, rfl, rfl, h3, r3⟩ := trodAll_cons r2
  obtain ⟨rfl, rfl, rfl⟩ := trodAll_nil r3
  obtain rfl : args = #[v0, v1, v2, v3] := by cases args; simp_all
  obtain ⟨rfl, rfl⟩ := trodVars_none hV
  obtain ⟨x0, rfl⟩ := okWide_string Tryf.underlying9 (hval 0 9 v0 rfl rfl)
  obtain ⟨a1, len1, cap1, rfl⟩ := okWide_slice Tryf.underlying22 (hval 1 22 v1 rfl rfl)
  obtain ⟨x2, rfl⟩ := okWide_string Tryf.underlying9 (hval 2 9 v2 rfl rfl)
  obtain ⟨x3, rfl⟩ := okWide_int Tryf.underlying3 (hval 3 3 v3 rfl rfl)
  have lt0 : ∀ x ∈ p0, x.block < W.heap.size := by obtain ⟨m, hm⟩ := h0; exact DataW.trod_lt m _ _ _ hm
  have lt1 : ∀ x ∈ p1, x.block < W.heap.size := by obtain ⟨m, hm⟩ := h1; exact DataW.trod_lt m _ _ _ hm
  have lt2 : ∀ x ∈ p2, x.block < W.heap.size := by obtain ⟨m, hm⟩ := h2; exact DataW.trod_lt m _ _ _ hm
  have lt3 : ∀ x ∈ p3, x.block < W.heap.size := by obtain ⟨m, hm⟩ := h3; exact DataW.trod_lt m _ _ _ hm
  clear hA0 hval0
  have hs0 : x0.size ≤ 9223372036854775807 := by
    obtain ⟨fuel, hf⟩ := h0
    obtain ⟨s, hs, _, hsz⟩ := DataW.trod_string Tryf.underlying9 hf
    simp [Value.cells] at hs
    subst hs
    unfold maxLen at hsz
    omega
  have hs2 : x2.size ≤ 9223372036854775807 := by
    obtain ⟨fuel, hf⟩ := h2
    obtain ⟨s, hs, _, hsz⟩ := DataW.trod_string Tryf.underlying9 hf
    simp [Value.cells] at hs
    subst hs
    unfold maxLen at hsz
    omega
  have walk : Calls Tryf.prog 3 #[.string x0, .slice a1 len1 cap1, .string x2, .int .i64 x3] W fun e w' => e = .returned (.bool true) ∧ Below W.heap.size W w' := by
    rcases open_strs h1 with ⟨rfl, rfl, rfl⟩ | ⟨ad, xs, rfl, rfl, hx, hxs, hn⟩
    · exact law_nil F.told x0 x2 x3 W hF hs0 hs2
    · exact law_some F.told x0 x2 ad cap1 xs x3 W hF hx hs0 hs2 hxs hn
  refine walk.mono fun e W' ⟨he, bel⟩ => ?_
  subst he
  exact ⟨_, rfl, _, _, _, [], _, [], hW', trodAll_mk1 (shut_bool Tryf.underlying4 _), (trodAll_cons_mk (Below.trod laidOut8' (by kernel_rfl) (of_decide_eq_true (by kernel_rfl)) h0 bel lt0) (trodAll_cons_mk (Below.trod laidOut8' (by kernel_rfl) (of_decide_eq_true (by kernel_rfl)) h1 bel lt1) (trodAll_cons_mk (Below.trod laidOut8' (by kernel_rfl) (of_decide_eq_true (by kernel_rfl)) h2 bel lt2) (trodAll_cons_mk (Below.trod laidOut8' (by kernel_rfl) (of_decide_eq_true (by kernel_rfl)) h3 bel lt3) trodAll_mk0)))), rfl, bel.frame _, fun h => by cases h⟩

/-- ████ THE STATEMENT ████ -/
theorem oneof_proved : Rows.FnOneOfRefusesJustWhatItDoesNotHandleToldSaid :=
  Claim7.holds_of_told_any 3 Tryf.f3 "fmt.errorf" [] [] _ _ _ (by kernel_rfl) rfl rfl rfl laidOut8 (by kernel_rfl) rfl ⟨rfl, rfl, rfl, rfl, rfl, rfl, rfl⟩ rfl rfl (by kernel_rfl) (by kernel_rfl) Tryf.func3 (by kernel_rfl)
    (of_decide_eq_true (by kernel_rfl)) (of_decide_eq_true (by kernel_rfl)) stops8.symm rfl stopKnobs8.symm (by kernel_rfl)
    (by kernel_rfl) (by kernel_rfl) (by kernel_rfl) (by kernel_rfl) (by kernel_rfl) (by kernel_rfl) (by kernel_rfl) (by kernel_rfl) (by kernel_rfl) rfl (by kernel_rfl) rfl rfl
    rfl rfl
    rfl (by kernel_rfl) (by kernel_rfl) (by kernel_rfl) (by decide) (by kernel_rfl)
    (OpenClaim.moreEntering_of (by kernel_rfl) (by kernel_rfl) (by kernel_rfl) (by kernel_rfl) (by kernel_rfl) (by kernel_rfl) (by kernel_rfl) (by kernel_rfl) (by kernel_rfl) (by kernel_rfl))
    ⟨_, WideRow.started_initial, quiet8 _⟩
    (fun os started _ H enc _ => told_lifted os started H enc)
end Go.Proofs.Qxb6616318aFmt
