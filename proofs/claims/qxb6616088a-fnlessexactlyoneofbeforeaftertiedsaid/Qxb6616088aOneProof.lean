/-
  THE STATEMENT 'Rows.FnLessExactlyOneOfBeforeAfterTiedSaid', PROVED.
-/
import Derived.Test.Qxb6616088aOne
import Derived.Test.Qxb6616088aOpen
namespace Go.Proofs.Qxb6616088a
open Go.ChangeShapes Go.WideShapes Go.ChangeAt Go.RowKit

theorem walk5 (a : Option Addr) (n c : Nat) (i k : Int) (w : World) (h : n = 0 ∨ ∃ (x o : Nat) (E B : Nat → Int), a = some ⟨x, o, none⟩ ∧ LeaseAt w x o n E B ∧ x < w.heap.size) :
    Calls Try.prog 5 #[.slice a n c, .int .i64 i, .int .i64 k] w fun e w' => e = .returned (.bool true) ∧ Below w.heap.size w w' := by
  by_cases hf : 65536 < n ∨ i < 0 ∨ (n : Int) ≤ i ∨ k < 0 ∨ (n : Int) ≤ k
  · exact one_far a n c i k w hf
  · rcases h with h | ⟨x, o, E, B, rfl, hL, hx⟩
    · omega
    · obtain ⟨i', rfl⟩ : ∃ i' : Nat, i = i' := ⟨i.toNat, by omega⟩
      obtain ⟨k', rfl⟩ : ∃ k' : Nat, k = k' := ⟨k.toNat, by omega⟩
      exact one_near x o n c i' k' E B w (by omega) (by omega) (by omega) hL hx

set_option maxRecDepth 100000 in
theorem one_lifted (os : Os) (started : os.Started) (H : Type) (enc : TypeId × Value → H) :
    ReturnsInHanded {} Try.checked os 5 .any (Rows.fnLessExactlyOneOfBeforeAfterTiedSpec.pre6 enc Try.prog Try.f5 Rows.fnLessExactlyOneOfBeforeAfterTiedRow.domain false) (Rows.fnLessExactlyOneOfBeforeAfterTiedSpec.post enc Try.prog Try.f5 false true false false) := by
  refine returnsInHanded_of_change (C := Try.checked) own started (by kernel_rfl) Try.func5
    (ChangeSpec.witness6 (enc := enc) (C := Try.checked) false ⟨#[], #[.slice none 0 0, .int .i64 0, .int .i64 0], []⟩ 8 (by kernel_rfl) (by kernel_rfl) (by kernel_rfl) (by kernel_rfl)) ?_
  intro W base args ds gs before hval0 hW hcnd _
  have hval : ∀ (j : Nat) t v, Try.f5.params[j]? = some t → args[j]? = some v → Value.okWide Try.prog W .any base t v := hval0
  have hW' := hW
  obtain ⟨p, q, hA0, hV, rfl, hfz, hnd⟩ := hW
  have hA : DataW.TrodAll enc Try.prog W 0 (fun _ => true) true Try.f5.params.toList args.toList ds p := hA0
  rw [Try.params5] at hA hval
  obtain ⟨v0, vs0, d0, ds0, p0, q0, hargs, rfl, rfl, h0, r0⟩ := trodAll_cons hA
  obtain ⟨v1, vs1, d1, ds1, p1, q1, rfl, rfl, rfl, h1, r1⟩ := trodAll_cons r0
  obtain ⟨v2, vs2, d2, ds2, p2, q2, rfl, rfl, rfl, h2, r2⟩ := trodAll_cons r1
  obtain ⟨rfl, rfl, rfl⟩ := trodAll_nil r2
  obtain rfl : args = #[v0, v1, v2] := by cases args; simp_all
  obtain ⟨rfl, rfl⟩ := trodVars_none hV
  obtain ⟨a0, len0, cap0, rfl⟩ := okWide_slice Try.underlying47 (hval 0 47 v0 rfl rfl)
  obtain ⟨i, rfl⟩ := okWide_int Try.underlying3 (hval 1 3 v1 rfl rfl)
  obtain ⟨k, rfl⟩ := okWide_int Try.underlying3 (hval 2 3 v2 rfl rfl)
  have lt0 : ∀ x ∈ p0, x.block < W.heap.size := by obtain ⟨m, hm⟩ := h0; exact DataW.trod_lt m _ _ _ hm
  have lt1 : ∀ x ∈ p1, x.block < W.heap.size := by obtain ⟨m, hm⟩ := h1; exact DataW.trod_lt m _ _ _ hm
  have lt2 : ∀ x ∈ p2, x.block < W.heap.size := by obtain ⟨m, hm⟩ := h2; exact DataW.trod_lt m _ _ _ hm
  clear hA0 hval0
  refine (walk5 a0 len0 cap0 i k W (leases_at h0)).mono fun e W' ⟨he, bel⟩ => ?_
  subst he
  exact ⟨_, rfl, _, _, _, [], _, [], hW', trodAll_mk1 (shut_bool Try.underlying4 _), (trodAll_cons_mk (Below.trod laidOut (by kernel_rfl) (of_decide_eq_true (by kernel_rfl)) h0 bel lt0) (trodAll_cons_mk (Below.trod laidOut (by kernel_rfl) (of_decide_eq_true (by kernel_rfl)) h1 bel lt1) (trodAll_cons_mk (Below.trod laidOut (by kernel_rfl) (of_decide_eq_true (by kernel_rfl)) h2 bel lt2) trodAll_mk0))), rfl, bel.frame _, fun h => by cases h⟩

/-- ████ THE STATEMENT ████ -/
theorem one_proved : Rows.FnLessExactlyOneOfBeforeAfterTiedSaid :=
  OpenClaim.holds_of_wide 5 Try.f5 rfl rfl rfl rfl rfl rfl rfl ⟨rfl, rfl, rfl, rfl, rfl⟩ rfl rfl rfl rfl rfl (by kernel_rfl) Try.func5 (by kernel_rfl)
    (of_decide_eq_true (by kernel_rfl)) (by unfold Func.isWrapper; first | (rw [if_pos (by decide +kernel)]; kernel_rfl) | (rw [if_neg (by decide +kernel)]; exact ⟨rfl, rfl⟩))
    (fun os started H enc _ => one_lifted os started H enc)
end Go.Proofs.Qxb6616088a
