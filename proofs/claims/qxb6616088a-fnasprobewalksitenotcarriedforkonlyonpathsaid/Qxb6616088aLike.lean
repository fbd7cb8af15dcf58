/-
  Probes of like messages.
-/
import Derived.Test.Qxb6616088aMsg0
namespace Go.Proofs.Qxb6616088a
open Go.RowKit

theorem probe_k (m : Msg) (n f : Int) : (probe m n f).k = 4 := by unfold probe; split <;> rfl
theorem probe_pa (m : Msg) (n f : Int) : (probe m n f).pa = m.pa := by unfold probe; split <;> rfl
theorem probe_pl (m : Msg) (n f : Int) : (probe m n f).pl = m.pl := by unfold probe; split <;> rfl
theorem probe_aa (m : Msg) (n f : Int) : (probe m n f).aa = m.aa := by unfold probe; split <;> rfl
theorem probe_al (m : Msg) (n f : Int) : (probe m n f).al = m.al := by unfold probe; split <;> rfl
theorem Like.pl {r m : Msg} (h : Like r m) : r.pl = m.pl := by rw [h.rest]
theorem Like.al {r m : Msg} (h : Like r m) : r.al = m.al := by rw [h.rest]
theorem Like.probe {r m : Msg} (h : Like r m) (n f : Int) : Like (probe r n f) m := by
  obtain ⟨h1, h2, h3⟩ := h
  refine ⟨?_, by rw [probe_pa]; exact h2, by rw [probe_aa]; exact h3⟩
  unfold Qxb6616088a.probe
  rw [h1]
  split <;> rfl
theorem probe_far {r m : Msg} (h : Like r m) (n f : Int) (hp : 0 < m.pl) : (probe r n f).wa = n ∧ (probe r n f).fo = IntKind.u64.wrap f := by
  rw [probe_long n f (by rw [h.pl]; exact hp)]
  exact ⟨rfl, rfl⟩
theorem probe_near {r : Msg} (n f : Int) (hp : r.pl = 0) : (probe r n f).wa = r.wa ∧ (probe r n f).fo = r.fo := by
  rw [probe_short n f hp]
  exact ⟨rfl, rfl⟩
theorem like_eq {a b m : Msg} (ha : Like a m) (hb : Like b m) (hk : a.k = b.k) (hw : a.wa = b.wa) (hf : a.fo = b.fo) : a = { b with pa := a.pa, pc := a.pc, aa := a.aa, ac := a.ac } := by
  have h1 := ha.rest
  have h2 := hb.rest
  rw [hk, hw, hf] at h1
  rw [h1, h2]
end Go.Proofs.Qxb6616088a
