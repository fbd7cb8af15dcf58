/-
  THE STATEMENT 'Rows.FnHoldMixedKeepsNewestSuffixSaid', PROVED.
-/
import Derived.Test.Qxb6616082aMix
import Derived.Test.Qxb6616082aOpen
import Derived.Deep.Grids
namespace Go.Proofs.Qxb6616082a
open Go.ChangeShapes Go.WideShapes Go.ChangeAt Go.RowKit

theorem bools_rowAt {H : Type} {enc : TypeId × Value → H} {W : World} {a0 : Option Addr} {len cap : Nat} {d : DataW H} {p : List MemPlace}
    (h : DataW.Trod enc Try.prog W 0 (fun _ => true) true 37 (.slice a0 len cap) d p) : ∃ B : Nat → Bool, RowAt W a0 len (fun i => .bool (B i)) := by
  obtain ⟨fuel, hf⟩ := h
  rcases Deep.open_bools Try.underlying37 Try.underlying4 (by kernel_rfl) hf with ⟨hcs, _⟩ | ⟨x, l, c, B, hcs, _, hl, hm, _, hcell⟩
  · simp [Value.cells] at hcs
    obtain ⟨rfl, rfl, rfl⟩ := hcs
    exact ⟨fun _ => false, fun i hi => by omega⟩
  · simp [Value.cells] at hcs
    obtain ⟨rfl, rfl, rfl⟩ := hcs
    exact ⟨B, rowAt_of fun i hi => hcell i (by omega)⟩

theorem walk4 (a0 a1 a2 : Option Addr) (n1 c0 c1 c2 : Nat) (zs : List Int) (B : Nat → Bool) (ss : List ByteArray) (w : World)
    (h0 : RowAt w a0 zs.length (fun i => .int .i64 (zs.getD i 0))) (h1 : RowAt w a1 n1 (fun i => .bool (B i)))
    (h2 : RowAt w a2 ss.length (fun i => .string (ss.getD i ByteArray.empty))) :
    Calls Try.prog 4 #[.slice a0 zs.length c0, .slice a1 n1 c1, .slice a2 ss.length c2] w fun e w' => e = .returned (.bool true) ∧ Below w.heap.size w w' := by
  by_cases hne : n1 = zs.length
  · subst hne
    have hl : ((List.range zs.length).map fun i => (zs.getD i 0, B i)).length = zs.length := by simp
    have k0 : RowAt w a0 ((List.range zs.length).map fun i => (zs.getD i 0, B i)).length (fun i => .int .i64 (((List.range zs.length).map fun i => (zs.getD i 0, B i)).getD i (0, false)).1) := by
      intro i hi
      have hi' : i < zs.length := by simpa using hi
      obtain ⟨b, off, e, hc⟩ := h0 i hi'
      exact ⟨b, off, e, by rw [hc]; simp [hi']⟩
    have k1 : RowAt w a1 ((List.range zs.length).map fun i => (zs.getD i 0, B i)).length (fun i => .bool (((List.range zs.length).map fun i => (zs.getD i 0, B i)).getD i (0, false)).2) := by
      intro i hi
      have hi' : i < zs.length := by simpa using hi
      obtain ⟨b, off, e, hc⟩ := h1 i hi'
      exact ⟨b, off, e, by rw [hc]; simp [hi']⟩
    have R := walk4_eq a0 a1 a2 c0 c1 c2 _ ss w k0 k1 h2
    rw [hl] at R
    exact R
  · exact walk4_ne a0 a1 a2 zs.length n1 c0 c1 c2 ss w hne h2

set_option maxRecDepth 100000 in
theorem mix_lifted (os : Os) (started : os.Started) (H : Type) (enc : TypeId × Value → H) :
    ReturnsInHanded {} Try.checked os 4 .any (Rows.fnHoldMixedKeepsNewestSuffixSpec.pre6 enc Try.prog Try.f4 Rows.fnHoldMixedKeepsNewestSuffixRow.domain false) (Rows.fnHoldMixedKeepsNewestSuffixSpec.post enc Try.prog Try.f4 false true false false) := by
  refine returnsInHanded_of_change (C := Try.checked) own started (by kernel_rfl) Try.func4
    (ChangeSpec.witness6 (enc := enc) (C := Try.checked) false ⟨#[], #[.slice none 0 0, .slice none 0 0, .slice none 0 0], []⟩ 8 (by kernel_rfl) (by kernel_rfl) (by kernel_rfl) (by kernel_rfl)) ?_
  intro W base args ds gs before hval0 hW hcnd _
  have hval : ∀ (j : Nat) t v, Try.f4.params[j]? = some t → args[j]? = some v → Value.okWide Try.prog W .any base t v := hval0
  have hW' := hW
  obtain ⟨p, q, hA0, hV, rfl, hfz, hnd⟩ := hW
  have hA : DataW.TrodAll enc Try.prog W 0 (fun _ => true) true Try.f4.params.toList args.toList ds p := hA0
  rw [Try.params4] at hA hval
  obtain ⟨v0, vs0, d0, ds0, p0, q0, hargs, rfl, rfl, h0, r0⟩ := trodAll_cons hA
  obtain ⟨v1, vs1, d1, ds1, p1, q1, rfl, rfl, rfl, h1, r1⟩ := trodAll_cons r0
  obtain ⟨v2, vs2, d2, ds2, p2, q2, rfl, rfl, rfl, h2, r2⟩ := trodAll_cons r1
  obtain ⟨rfl, rfl, rfl⟩ := trodAll_nil r2
  obtain rfl : args = #[v0, v1, v2] := by cases args; simp_all
  obtain ⟨rfl, rfl⟩ := trodVars_none hV
  obtain ⟨a0, len0, cap0, rfl⟩ := okWide_slice Try.underlying22 (hval 0 22 v0 rfl rfl)
  obtain ⟨a1, len1, cap1, rfl⟩ := okWide_slice Try.underlying37 (hval 1 37 v1 rfl rfl)
  obtain ⟨a2, len2, cap2, rfl⟩ := okWide_slice Try.underlying23 (hval 2 23 v2 rfl rfl)
  have lt0 : ∀ x ∈ p0, x.block < W.heap.size := by obtain ⟨m, hm⟩ := h0; exact DataW.trod_lt m _ _ _ hm
  have lt1 : ∀ x ∈ p1, x.block < W.heap.size := by obtain ⟨m, hm⟩ := h1; exact DataW.trod_lt m _ _ _ hm
  have lt2 : ∀ x ∈ p2, x.block < W.heap.size := by obtain ⟨m, hm⟩ := h2; exact DataW.trod_lt m _ _ _ hm
  obtain ⟨zs, rfl, w0⟩ := ints_rowAt h0
  obtain ⟨B, w1⟩ := bools_rowAt h1
  obtain ⟨ss, rfl, w2⟩ := strs_rowAt h2
  clear hA0 hval0
  refine (walk4 a0 a1 a2 len1 cap0 cap1 cap2 zs B ss W w0 w1 w2).mono fun e W' ⟨he, bel⟩ => ?_
  subst he
  exact ⟨_, rfl, _, _, _, [], _, [], hW', trodAll_mk1 (shut_bool Try.underlying4 _), (trodAll_cons_mk (Below.trod laidOut (by kernel_rfl) (of_decide_eq_true (by kernel_rfl)) h0 bel lt0) (trodAll_cons_mk (Below.trod laidOut (by kernel_rfl) (of_decide_eq_true (by kernel_rfl)) h1 bel lt1) (trodAll_cons_mk (Below.trod laidOut (by kernel_rfl) (of_decide_eq_true (by kernel_rfl)) h2 bel lt2) trodAll_mk0))), rfl, bel.frame _, fun h => by cases h⟩

/-- ████ THE STATEMENT ████ -/
theorem mix_proved : Rows.FnHoldMixedKeepsNewestSuffixSaid :=
  OpenClaim.holds_of_wide 4 Try.f4 rfl rfl rfl rfl rfl rfl rfl ⟨rfl, rfl, rfl, rfl, rfl⟩ rfl rfl rfl rfl rfl (by kernel_rfl) Try.func4 (by kernel_rfl)
    (of_decide_eq_true (by kernel_rfl)) (by unfold Func.isWrapper; first | (rw [if_pos (by decide +kernel)]; kernel_rfl) | (rw [if_neg (by decide +kernel)]; exact ⟨rfl, rfl⟩))
    (fun os started H enc _ => mix_lifted os started H enc)
end Go.Proofs.Qxb6616082a
