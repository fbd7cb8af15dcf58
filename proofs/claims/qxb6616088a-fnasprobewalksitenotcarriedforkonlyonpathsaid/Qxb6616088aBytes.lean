/-
  The byte guards of the two probe laws: they answer some bool.
-/
import Derived.Test.Qxb6616088aBig
namespace Go.Proofs.Qxb6616088a
open Go.RowKit

/-- It returned a bool. -/
def SomeBool (e : Ending) : Prop := ∃ b : Bool, e = .returned (.bool b)

set_option maxRecDepth 100000 in
set_option maxHeartbeats 4000000 in
theorem c7_any (m : Msg) (s1 s2 : ByteArray) (n1 f1 n2 f2 : Int) (M : Nat → Mem) (w : World) (hP : PathAt w m.pa m.pl M) :
    Calls Try.prog 7 #[.agg m.cells, .string s1, .int .u64 n1, .int .i64 f1, .string s2, .int .u64 n2, .int .i64 f2] w fun e w' => SomeBool e ∧ Below w.heap.size w w' := by
  have h1 : m.cells[1]? = some (.string m.f) := rfl
  have h2 : m.cells[2]? = some (.string m.t) := rfl
  have h3 : m.cells[3]? = some (.string m.ts) := rfl
  have h4 : m.cells[4]? = some (.string m.tn) := rfl
  have h5 : m.cells[5]? = some (.string m.rs) := rfl
  have h6 : m.cells[6]? = some (.string m.rp) := rfl
  have h9 : m.cells[9]? = some (.slice m.pa m.pl m.pc) := rfl
  have h10 : m.cells[10]? = some (.string m.cs) := rfl
  have h11 : m.cells[11]? = some (.string m.cn) := rfl
  have h12 : m.cells[12]? = some (.string m.ch) := rfl
  have h14 : m.cells[14]? = some (.string m.bo) := rfl
  have h19 : m.cells[19]? = some (.slice m.aa m.al m.ac) := rfl
  have hbel : Below w.heap.size w (w.alloc (.cells m.cells 26)) := (Below.refl _ _).alloc (Nat.le_refl _) _
  go_enter Try.func7, Try.ntmps7
  go_wp2_with (first | (refine wpList_box26 (m := m) rfl rfl rfl ?_))
  all_goals first
    | (go_ret
       exact ⟨⟨_, rfl⟩, hbel⟩)
    | skip
  go_loop [15, 16] (fun n i => ∃ (z : Int) (k : Nat), n = .int .i64 z ∧ i = .int .i64 k ∧ k ≤ m.pl) (fun _ i => m.pl - (intOf i).toNat)
  case atStart => exact ⟨_, 0, rfl, rfl, by omega⟩
  case round =>
    obtain ⟨z, k, rfl, rfl, hk⟩ := hrel
    by_cases hkn : k < m.pl
    · obtain ⟨b, off, ha, hl, hr⟩ := hP k hkn
      obtain ⟨r0, r1, r2, r3, r4, r5, r6, r7, r8⟩ := range_mem hr
      have h9' := h9
      rw [ha] at h9'
      clear hP h1 h2 h3 h4 h5 h6 h9 h10 h11 h12 h14 h19 ha hr
      go_wp2_with fail
      all_goals first
        | (go_ret
           exact ⟨⟨_, rfl⟩, hbel⟩)
        | skip
      exact ⟨⟨_, k + 1, rfl, by simp, by omega⟩, by simp [intOf]; omega⟩
    · clear hP
      go_wp2_with fail
      all_goals
        go_ret
        exact ⟨⟨_, rfl⟩, hbel⟩
end Go.Proofs.Qxb6616088a
