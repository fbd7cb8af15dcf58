/-
  The held envelopes in memory, and append onto them: laws over any world (no walk).
-/
import Derived.Test.Qxb6616082aRows
import Derived.WalkKit
import Derived.WalkSpells
import Derived.Deep.OwnRows
import Derived.Deep.RegionLawGrows
namespace Go.Proofs.Qxb6616082a
open Go.RowKit

/-- The dynamic type and value of a held message: the batch, or a proposal. -/
def mt (m : Bool) : TypeId := if m then 29 else 63
def mx (bb : Nat) (m : Bool) : Value := if m then .pointer (some ⟨bb, 0, none⟩) else .agg #[.int .u64 0, .int .i64 0, .int .u64 0, .slice none 0 0]

/-- Setting many cells of a row. -/
theorem rowIs_put2 {w : World} {b : Nat} {t : TypeId} {n : Nat} {f : Nat → Value} (h : w.rowIs b t n f) (o : Nat) (x y : Value) :
    (w.setCells b o [x, y]).rowIs b t n (fun j => if j = o + 1 then y else if j = o then x else f j) :=
  (h.set o x).set (o + 1) y

/-- The envelopes es, held in V: nil, or a row above block lo. -/
def HeldAt (w : World) (lo bb : Nat) (ao : Option Addr) (cap : Nat) (es : List (Int × Bool)) : Prop :=
  (ao = none ∧ cap = 0 ∧ es = []) ∨
  ∃ g off F, ao = some ⟨g, off, none⟩ ∧ lo < g ∧ es.length ≤ cap ∧ w.rowIs g 59 (off + cap * 2) F ∧
    ∀ i (h : i < es.length), F (off + i * 2) = .int .i64 es[i].1 ∧ F (off + i * 2 + 1) = .iface (mt es[i].2) (mx bb es[i].2)

theorem HeldAt.of_block {w w' : World} {lo bb : Nat} {ao : Option Addr} {cap : Nat} {es : List (Int × Bool)} (h : HeldAt w lo bb ao cap es)
    (hb : ∀ a, ao = some a → w'.heap[a.block]? = w.heap[a.block]?) : HeldAt w' lo bb ao cap es := by
  rcases h with h | ⟨g, off, F, rfl, h1, h2, h3, h4⟩
  · exact .inl h
  · exact .inr ⟨g, off, F, rfl, h1, h2, h3.of_block (hb _ rfl), h4⟩

theorem HeldAt.lt {w : World} {lo bb : Nat} {a : Addr} {cap : Nat} {es : List (Int × Bool)} (h : HeldAt w lo bb (some a) cap es) : lo < a.block ∧ a.block < w.heap.size := by
  rcases h with ⟨h, _⟩ | ⟨g, off, F, h0, h1, h2, h3, h4⟩
  · cases h
  · cases h0; exact ⟨h1, h3.lt⟩

theorem HeldAt.alloc {w : World} {lo bb : Nat} {ao : Option Addr} {cap : Nat} {es : List (Int × Bool)} (h : HeldAt w lo bb ao cap es) (o : Obj) : HeldAt (w.alloc o) lo bb ao cap es :=
  h.of_block fun a e => by subst e; exact Below.heap_alloc w o _ h.lt.2
theorem HeldAt.drew {w : World} {lo bb : Nat} {ao : Option Addr} {cap : Nat} {es : List (Int × Bool)} (h : HeldAt w lo bb ao cap es) : HeldAt w.drew lo bb ao cap es :=
  h.of_block fun _ _ => rfl
theorem HeldAt.setCell {w : World} {lo bb : Nat} {ao : Option Addr} {cap : Nat} {es : List (Int × Bool)} (h : HeldAt w lo bb ao cap es) {p : Addr} (hp : p.block ≤ lo) (v : Value) : HeldAt (w.setCell p v) lo bb ao cap es :=
  h.of_block fun a e => by subst e; exact Below.heap_setCell _ _ _ _ (by have := h.lt.1; omega)
theorem HeldAt.below {w w' : World} {lo bb : Nat} {ao : Option Addr} {cap : Nat} {es : List (Int × Bool)} (h : HeldAt w lo bb ao cap es) (hb : Below w.heap.size w w') : HeldAt w' lo bb ao cap es :=
  h.of_block fun a e => by subst e; exact hb.block _ h.lt.2

theorem add_plain' (b o j : Nat) : (⟨b, o, none⟩ : Addr).add j = ⟨b, o + j, none⟩ := by unfold Addr.add; split <;> simp_all

theorem info59 : (Try.prog.info? 59).map (fun i => (i.zero, i.size, i.bytes)) = some (some (.agg #[.int .i64 0, .nilIface]), 2, 24) := by kernel_rfl

/-- The cells of the envelopes, in a row. -/
def envCells (bb : Nat) (es : List (Int × Bool)) : List Value := es.flatMap fun e => [.int .i64 e.1, .iface (mt e.2) (mx bb e.2)]
theorem envCells_length (bb : Nat) (es : List (Int × Bool)) : (envCells bb es).length = es.length * 2 := by
  induction es with
  | nil => rfl
  | cons e r ih => simp [envCells] at *; omega
theorem envCells_at (bb : Nat) (es : List (Int × Bool)) (i : Nat) (h : i < es.length) :
    (envCells bb es)[i * 2]? = some (.int .i64 es[i].1) ∧ (envCells bb es)[i * 2 + 1]? = some (.iface (mt es[i].2) (mx bb es[i].2)) := by
  induction es generalizing i with
  | nil => simp at h
  | cons e r ih =>
    cases i with
    | zero => simp [envCells]
    | succ k =>
      have := ih k (by simpa using h)
      have e1 : (k + 1) * 2 = k * 2 + 2 := by omega
      simpa [envCells, e1] using this
theorem envCells_snoc (bb : Nat) (es : List (Int × Bool)) (f : Int) (m : Bool) : envCells bb (es ++ [(f, m)]) = envCells bb es ++ [.int .i64 f, .iface (mt m) (mx bb m)] := by
  simp [envCells]

/-- What append made anew, as held envelopes. -/
theorem HeldAt.of_owns {w : World} {lo bb base : Nat} {v : Value} {es : List (Int × Bool)} (h : w.ownsRow base 59 2 v es.length (envCells bb es)) (hlo : lo < base) (hne : 0 < es.length) :
    ∃ g cap, v = .slice (some ⟨g, 0, none⟩) es.length cap ∧ HeldAt w lo bb (some ⟨g, 0, none⟩) cap es := by
  obtain ⟨_, h2⟩ := h
  rcases h2 with ⟨_, h0⟩ | ⟨g, cap, cur, hv, hg, hh, hn, hm, hs, ht⟩
  · omega
  · refine ⟨g, cap, hv, .inr ⟨g, 0, fun i => cur[i]?.getD .nilIface, rfl, by omega, hn, ⟨cur, hh, by omega, fun i hi => ?_⟩, fun i hi => ?_⟩⟩
    · have : i < cur.size := by omega
      simp [this]
    · have ha := envCells_at bb es i hi
      rw [← ht] at ha
      simp only [List.getElem?_take, Array.getElem?_toList] at ha
      rw [if_pos (by omega), if_pos (by omega)] at ha
      simp [ha.1, ha.2]

/-- THE RUN OF append OF ONE ENVELOPE. -/
theorem run_append_env (w : World) (lo bb : Nat) (ao : Option Addr) (cap : Nat) (es : List (Int × Bool)) (hH : HeldAt w lo bb ao cap es) (hlo : lo < w.heap.size) (hlen : es.length ≤ 4096)
    (b : Nat) (f : Int) (m : Bool) (h0 : w.cell? ⟨b, 0, none⟩ = some (.int .i64 f)) (h1 : w.cell? ⟨b, 1, none⟩ = some (.iface (mt m) (mx bb m))) (ty : TypeId) :
    ∃ g off cap' w', (Builtin.append_ #[52, 52] ty #[.slice ao es.length cap, .slice (some ⟨b, 0, none⟩) 1 1]).run Try.prog w = .ok (.slice (some ⟨g, off, none⟩) (es.length + 1) cap') w' ∧
      HeldAt w' lo bb (some ⟨g, off, none⟩) cap' (es ++ [(f, m)]) ∧ w.grownBy w' (ao.map (·.block)) := by
  obtain ⟨i, hi, hz0, hz1, hz2⟩ := info_parts info59
  have hnews : ∀ j u, ([.int .i64 f, .iface (mt m) (mx bb m)] : List Value)[j]? = some u → w.cell? ((⟨b, 0, none⟩ : Addr).add j) = some u := by
    intro j u hu
    rw [add_plain']
    match j, hu with
    | 0, hu => simp at hu; subst hu; exact h0
    | 1, hu => simp at hu; subst hu; exact h1
    | (k + 2), hu => simp at hu
  have h1c : ∀ u ∈ ([.int .i64 f, .iface (mt m) (mx bb m)] : List Value), u.oneCell' = true := by
    intro u hu
    simp at hu
    rcases hu with rfl | rfl <;> rfl
  have hmax : es.length + 1 ≤ maxLen := by unfold maxLen; omega
  have hl1 : (es ++ [(f, m)]).length = es.length + 1 := by simp
  rcases hH with ⟨rfl, rfl, rfl⟩ | ⟨g, off, F, rfl, hg, hc, hrow, hF⟩
  · -- nil
    obtain ⟨v', w', hrun, r1, r2, _⟩ := run_append_own (P := Try.prog) w w.heap.size 52 ty 59 i (.agg #[.int .i64 0, .nilIface]) 2 24 Try.underlying52 hi hz0 hz1 hz2 rfl (by omega) (.slice none 0 0) 0 [] (World.ownsRow_nil w _ 59 2)
      ⟨b, 0, none⟩ 1 1 [.int .i64 f, .iface (mt m) (mx bb m)] rfl hnews h1c hmax (by omega) (Nat.le_refl _)
    obtain ⟨g, cap, hv, hh⟩ := HeldAt.of_owns (lo := lo) (bb := bb) (es := [(f, m)]) r1 hlo (by simp)
    subst hv
    exact ⟨g, 0, cap, w', hrun, hh, r2⟩
  · by_cases hroom : es.length + 1 ≤ cap
    · have hcs : ∀ j, j < ([.int .i64 f, .iface (mt m) (mx bb m)] : List Value).length → (w.cell? ⟨g, off + es.length * i.size + j, none⟩).isSome = true := by
        intro j hj
        rw [hz1, hrow.cell (by simp at hj; omega)]; rfl
      have hrun := run_append_room_cells (P := Try.prog) w 52 ty 59 i Try.underlying52 hi g off es.length cap ⟨b, 0, none⟩ 1 1 [.int .i64 f, .iface (mt m) (mx bb m)] (by rw [hz1]; rfl) hnews h1c hroom hcs (fun j _ => hrow.frozen _)
      rw [hz1] at hrun
      refine ⟨g, off, cap, _, hrun, .inr ⟨g, off, _, rfl, hg, by simpa using hroom, rowIs_put2 hrow _ _ _, fun k hk => ?_⟩, ⟨rfl, rfl, rfl, by simp [World.setCells, World.setCell], fun k _ hne => ?_⟩⟩
      · rw [hl1] at hk
        by_cases hk' : k < es.length
        · have := hF k hk'
          rw [List.getElem_append_left hk']
          rw [if_neg (by omega), if_neg (by omega), if_neg (by omega), if_neg (by omega)]
          exact this
        · have : k = es.length := by omega
          subst this
          simp
      · have hkg : k ≠ g := fun e => hne (by simp [e])
        simp only [World.setCells]
        rw [Below.heap_setCell _ _ _ _ hkg, Below.heap_setCell _ _ _ _ hkg]
    · obtain ⟨v', w', hrun, r1, r2⟩ := run_append_arg_grows (P := Try.prog) w 52 ty 59 i (.agg #[.int .i64 0, .nilIface]) 2 24 Try.underlying52 hi hz0 hz1 hz2 rfl (by omega) ⟨g, off, none⟩ es.length cap (envCells bb es) (envCells_length bb es)
        (fun j u hu => by
          rw [add_plain']
          have hj : j < es.length * 2 := by rw [← envCells_length bb es]; exact (List.getElem?_eq_some_iff.1 hu).1
          have e0 := hF (j / 2) (by omega)
          have a0 := envCells_at bb es (j / 2) (by omega)
          rw [hrow.cell (by omega)]
          rcases Nat.mod_two_eq_zero_or_one j with hp | hp
          · have ej : j = j / 2 * 2 := by omega
            rw [ej] at hu ⊢
            rw [a0.1] at hu
            simp only [Option.some.injEq] at hu ⊢
            rw [← hu, ← e0.1]
          · have ej : j = j / 2 * 2 + 1 := by omega
            rw [ej] at hu ⊢
            rw [a0.2] at hu
            simp only [Option.some.injEq] at hu ⊢
            rw [← hu, ← e0.2]
            congr 1)
        ⟨b, 0, none⟩ 1 1 [.int .i64 f, .iface (mt m) (mx bb m)] rfl hnews (by omega) hmax (by omega)
      rw [← envCells_snoc, ← hl1] at r1
      obtain ⟨g', cap', hv, hh⟩ := HeldAt.of_owns (lo := lo) (bb := bb) (es := es ++ [(f, m)]) r1 hlo (by simp)
      subst hv
      rw [hl1] at hrun
      exact ⟨g', 0, cap', w', hrun, hh, ⟨r2.os, r2.tape, r2.output, r2.size, fun k hk _ => r2.block k hk (by simp)⟩⟩

/-- append of one envelope, AS A STEP OF A REGION THAT DRAWS. -/
theorem step_append_env {ops : Array Oper} {o : Oper} {a : Act} {w : World} {K : Act → World → Prop} {Q : Exit → Act → World → Prop} {E : Prop}
    (hg : o.guard = none) (s x : Operand) (hop : o.op = Op.call { callee := Callee.builtin Builtin.append, args := #[s, x], argTypes := #[52, 52] })
    (lo bb : Nat) (ao : Option Addr) (cap : Nat) (es : List (Int × Bool)) (n : Nat) (hs : a.eval s = .slice ao n cap) (hn : n = es.length) (hH : HeldAt w lo bb ao cap es) (hlo : lo < w.heap.size) (hlen : es.length ≤ 4096)
    (b : Nat) (f : Int) (m : Bool) (hx : a.eval x = .slice (some ⟨b, 0, none⟩) 1 1) (h0 : w.cell? ⟨b, 0, none⟩ = some (.int .i64 f)) (h1 : w.cell? ⟨b, 1, none⟩ = some (.iface (mt m) (mx bb m)))
    (hK : ∀ g off cap' w', HeldAt w' lo bb (some ⟨g, off, none⟩) cap' (es ++ [(f, m)]) → w.grownBy w' (ao.map (·.block)) → K (a.put o.dst (.slice (some ⟨g, off, none⟩) (n + 1) cap')) w') :
    if Region.wanted o (yielded ops a.tmps) = true then Oper.wp Try.prog o a w K Q else E := by
  have hw : Region.wanted o (yielded ops a.tmps) = true := by simp [Region.wanted, hg]
  rw [if_pos hw]
  subst hn
  obtain ⟨g, off, cap', w', hrun, r1, r2⟩ := run_append_env w lo bb ao cap es hH hlo hlen b f m h0 h1 o.type
  unfold Oper.wp
  simp [execOp, hop, resolve, invoke, builtin, hs, hx, hrun, Result.andThen]
  exact hK g off cap' w' r1 r2
end Go.Proofs.Qxb6616082a
