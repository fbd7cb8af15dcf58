/-
  The law: the walk.
-/
import Derived.Test.Qxb6616318aFmtW2
import Derived.Test.Qxb6616318aFmtW5
namespace Go.Proofs.Qxb6616318aFmt
open Go.RowKit Go.Extern.Stop Go.Stop Go.Extern

theorem contains_take {xs : List ByteArray} {k : Nat} {x v : ByteArray} (h : xs[k]? = some x) : Lib.containsS (xs.take (k + 1)) v = (Lib.containsS (xs.take k) v || decide (x = v)) := by
  rw [Bool.eq_iff_iff, Bool.or_eq_true, Lib.containsS_iff, Lib.containsS_iff, List.take_add_one, h, decide_eq_true_eq]
  simp [eq_comm]
theorem contains_mid (xs : List ByteArray) (k : Nat) (v : ByteArray) : Lib.containsS (xs.take k ++ [v] ++ xs.drop k) v = true := by
  rw [Lib.containsS_iff]
  simp
theorem lens_tot (xs : List ByteArray) : Lib.lens (xs.map (·.data.toList)) = tot xs := by
  induction xs with
  | nil => rfl
  | cons x r ih => simp [Lib.lens, tot] at *; rw [ih]
theorem join_le (xs : List ByteArray) (h1 : xs.length ≤ 1048576) (h2 : tot xs ≤ 1048576) : (Lib.join (xs.map (·.data.toList)) [44, 32]).length ≤ 140737488355328 := by
  cases xs with
  | nil => simp [Lib.join]
  | cons x r =>
    have h := Lib.join_length x.data.toList (r.map (·.data.toList)) [44, 32]
    have h3 := lens_tot (x :: r)
    rw [List.map_cons] at h3 ⊢
    rw [h, h3, List.length_map]
    simp at h1 ⊢
    omega
theorem strs_none (w : World) (a : Option Addr) {xs : List ByteArray} {k : Nat} (h : xs.length ≤ k) : StrsAt w a (xs.drop k) := by
  rw [List.drop_of_length_le h]
  intro j x hj
  cases hj
theorem strs_if {w : World} {g k : Nat} {xs : List ByteArray} (h : StrsAt w (some ⟨g, k, none⟩) (xs.drop k)) : StrsAt w (if xs.length = k then some ⟨g, 0, none⟩ else some ⟨g, k, none⟩) (xs.drop k) := by
  split
  · exact strs_none _ _ (by omega)
  · exact h
theorem strs_one (w : World) (v : ByteArray) : StrsAt (w.alloc (.cells #[.string v] 9)) (some ⟨w.heap.size, 0, none⟩) [v] := by
  intro j x hj
  cases j with
  | zero =>
    cases hj
    exact ⟨_, _, rfl, by simp, by rw [World.cell?_alloc_at _ _ _ _ rfl]; rfl⟩
  | succ j => cases hj
theorem bytes_ne {a b : ByteArray} (h : ¬ a = b) : (a.toList == b.toList) = false := by
  rw [ByteArray.toList_eq, ByteArray.toList_eq]
  exact beq_eq_false_iff_ne.2 fun e => h (ByteArray.ext (Array.toList_inj.1 e))

set_option maxRecDepth 100000 in
set_option maxHeartbeats 1000000 in
theorem law_some (F : Interp) (v old : ByteArray) (ad : Addr) (c : Nat) (xs : List ByteArray) (t : Int) (w : World) (hF : F.answers w.tape) (hx : StrsAt w (some ad) xs)
    (hv : v.size ≤ 9223372036854775807) (ho : old.size ≤ 9223372036854775807) (hxs : ∀ (j : Nat) x, xs[j]? = some x → x.size ≤ 9223372036854775807) (hn : xs.length ≤ 9223372036854775807) :
    Calls Tryf.prog 3 #[.string v, .slice (some ad) xs.length c, .string old, .int .i64 t] w fun e w' => e = .returned (.bool true) ∧ Below w.heap.size w w' := by
  go_enter Tryf.func3, Tryf.ntmps3
  go_wp2_with fail
  refine Calls.mono (c4_any v old (some ad) c xs t w hx hv ho hxs hn) ?_
  rintro e w1 ⟨hs, rfl⟩
  obtain ⟨b, rfl, hsm⟩ := hs
  cases b
  · go_wp2_with fail
    go_ret
    exact ⟨rfl, Below.refl _ _⟩
  obtain ⟨hlen, htot⟩ := hsm rfl
  clear hsm hxs hn
  have hmk := run_make_strs xs.length (by omega)
  have hx1 : ∀ o : Obj, StrsAt (w1.alloc o) (some ad) xs := fun o => hx.below' ((Below.refl _ _).alloc (Nat.le_refl _) o)
  have hrm := row_made w1 xs.length
  go_wp2_with (first | (refine wpList_copy_strs rfl (.tmp 31) (.tmp 32) rfl w1.heap.size xs (some ad) c rfl rfl ?hr ?hq ?_; (case hr => exact hrm); (case hq => exact hx1 _); intro w2 hR2 hb2))
  all_goals
    have hbW : Below w1.heap.size w1 w2 := ((Below.refl _ _).alloc (Nat.le_refl _) _).trans hb2
    have hS := hR2.strs
    have hFW : F.answers w2.tape := by rw [hbW.tape]; exact hF
    clear hb2
  all_goals first
    | (go_ret
       exact ⟨rfl, hbW⟩)
    | skip
  go_loop [10, 11] (fun s i => ∃ (z : Int) (k : Nat), s = .int .i64 z ∧ i = .int .i64 k ∧ k ≤ xs.length) (fun _ i => xs.length - (intOf i).toNat)
  case atStart => exact ⟨_, 0, rfl, rfl, by omega⟩
  case round =>
    obtain ⟨z, k, rfl, rfl, hk⟩ := hrel
    by_cases hkn : k < xs.length
    · have hget : xs[k]? = some xs[k] := List.getElem?_eq_getElem hkn
      have hr := hR2.cell k _ hget
      clear hR2 hx hx1 hrm hmk hS
      go_wp2
      all_goals first
        | (go_ret
           exact ⟨rfl, hbW⟩)
        | skip
      exact ⟨⟨_, k + 1, rfl, by simp, by omega⟩, by simp [intOf]; omega⟩
    obtain rfl : k = xs.length := by omega
    go_wp2
    all_goals first
      | (go_ret
         exact ⟨rfl, hbW⟩)
      | skip
    obtain ⟨k, rfl⟩ : ∃ k : Nat, t = k := ⟨t.toNat, by omega⟩
    have hkx : k ≤ xs.length := by omega
    go_loop [12, 13] (fun s i => ∃ k : Nat, s = .bool (Lib.containsS (xs.take k) v) ∧ i = .int .i64 k ∧ k ≤ xs.length) (fun _ i => xs.length - (intOf i).toNat)
    case atStart => exact ⟨0, rfl, rfl, by omega⟩
    case round =>
      obtain ⟨q, rfl, rfl, hq⟩ := hrel
      by_cases hqn : q < xs.length
      · have hget : xs[q]? = some xs[q] := List.getElem?_eq_getElem hqn
        have hr := hR2.cell q _ hget
        have hct := contains_take (v := v) hget
        clear hR2 hx hx1 hrm hmk hS
        by_cases hqv : xs[q] = v
        · have hct1 : Lib.containsS (xs.take (q + 1)) v = true := by rw [hct, decide_eq_true hqv, Bool.or_true]
          clear hct hget
          go_wp2
          exact ⟨⟨q + 1, by rw [hct1], by simp, by omega⟩, by simp [intOf]; omega⟩
        · have hct1 : Lib.containsS (xs.take (q + 1)) v = Lib.containsS (xs.take q) v := by rw [hct, decide_eq_false hqv, Bool.or_false]
          have hne := bytes_ne hqv
          clear hct hget
          go_wp2
          exact ⟨⟨q + 1, by rw [hct1], by simp, by omega⟩, by simp [intOf]; omega⟩
      obtain rfl : q = xs.length := by omega
      rw [List.take_length]
      clear hx hx1 hrm hmk
      obtain ⟨w3, hw3⟩ : ∃ w3, w3 = w2.alloc (.cells #[.string old] 9) := ⟨_, rfl⟩
      have hb3 : Below w2.heap.size w2 w3 := by rw [hw3]; exact (Below.refl _ _).alloc (Nat.le_refl _) _
      have hg3 : w3.cell? ⟨w2.heap.size, 0, none⟩ = some (.string old) := by rw [hw3, World.cell?_alloc_at _ _ _ _ rfl]; rfl
      have hf3 : w3.frozen? ⟨w2.heap.size, 0, none⟩ = false := by rw [hw3]; exact frozen_of_row _ _ _ _ _ (heap_alloc_new _ _)
      have hl3 : w2.heap.size < w3.heap.size := by rw [hw3]; simp
      have hS3 := hS.below' hb3
      have hF3 : F.answers w3.tape := by rw [hb3.tape]; exact hFW
      have hjoin := join_le xs hlen htot
      have hmk2 := run_make_room xs.length hlen
      go_wp2_with fail
      rw [← hw3]
      clear hw3
      by_cases hin : Lib.containsS xs v = true
      · refine Calls.mono (c5_hit v old (some ⟨w1.heap.size, 0, none⟩) xs.length xs.length w2.heap.size xs w3 rfl hS3 (by omega) hg3 hf3 hl3 hin) ?_
        rintro e w4 ⟨rfl, hg4, hb4⟩
        have hb34 : Below w2.heap.size w2 w4 := hb3.trans hb4
        have b4 := hbW.trans (hb34.mono hbW.size)
        have hR4 := hR2.below hb34 hR2.lt
        have hrm4 := row_made w4 (xs.length + 1)
        have hb5a := (Below.refl w4.heap.size w4).alloc (Nat.le_refl _) (.cells (madeCells #[.string ByteArray.empty] (xs.length + 1)) 9)
        have hT4 := (hR4.below hb5a hR4.lt).take k
        clear hg3 hf3 hl3 hS3 hF3 hS hjoin hb34 hb3 hb4 hR2
        have hX4 := hR4.below hb5a hR4.lt
        have hXl := hR4.lt
        go_wp2_with (first | (refine wpList_append_strs rfl (.tmp 101) (.tmp 104) rfl w4.heap.size _ _ [] (xs.take k) (some ⟨w1.heap.size, 0, none⟩) _ _ rfl rfl ?e0 ?e1 ?r1 ?s1 ?o1 ?_; (case e0 => rfl); (case e1 => rw [List.length_take]; omega); (case r1 => exact hrm4); (case s1 => exact hT4); (case o1 => omega); intro w5 hR5 hb5; have hX5 := hX4.below hb5 hXl; have hX5a := hX5.below ((Below.refl w5.heap.size w5).alloc (Nat.le_refl _) (.cells #[.string v] 9)) hX5.lt) | (refine wpList_append_strs rfl (.tmp 106) (.tmp 108) rfl w4.heap.size _ _ ([] ++ xs.take k) [v] (some ⟨w5.heap.size, 0, none⟩) _ _ rfl rfl ?e2 ?e3 ?r2 ?s2 ?o2 ?_; (case e2 => rw [List.nil_append, List.length_take]; omega); (case e3 => rfl); (case r2 => exact hR5.below ((Below.refl w5.heap.size w5).alloc (Nat.le_refl _) _) hR5.lt); (case s2 => exact strs_one w5 v); (case o2 => omega); intro w6 hR6 hb6; have hX6 := hX5a.below hb6 hXl; have hD6 := hX6.drop k) | (refine wpList_append_strs rfl (.tmp 110) (.tmp 113) rfl w4.heap.size _ _ ([] ++ xs.take k ++ [v]) (xs.drop k) _ _ _ rfl rfl ?e4 ?e5 ?r3 ?s3 ?o3 ?_; (case e4 => simp only [List.length_append, List.length_nil, List.length_take, List.length_cons]; omega); (case e5 => first | (rw [List.length_drop]; done) | (rw [List.length_drop]; omega)); (case r3 => exact hR6); (case s3 => first | exact strs_if hD6 | exact strs_none _ _ (by omega)); (case o3 => omega); intro w7 hR7 hb7))
        all_goals
          obtain ⟨w8, hw8⟩ : ∃ w8, w8 = w7.alloc (.cells #[.string old] 9) := ⟨_, rfl⟩
          have hb8 : Below w7.heap.size w7 w8 := by rw [hw8]; exact (Below.refl _ _).alloc (Nat.le_refl _) _
          have hg8 : w8.cell? ⟨w7.heap.size, 0, none⟩ = some (.string old) := by rw [hw8, World.cell?_alloc_at _ _ _ _ rfl]; rfl
          have hf8 : w8.frozen? ⟨w7.heap.size, 0, none⟩ = false := by rw [hw8]; exact frozen_of_row _ _ _ _ _ (heap_alloc_new _ _)
          have hl8 : w7.heap.size < w8.heap.size := by rw [hw8]; simp
          have hS8 := (hR7.below hb8 hR7.lt).strs
          have hb48 : Below w4.heap.size w4 w8 := ((((hb5a.trans hb5).alloc (Nat.le_trans hb5a.size hb5.size) _).trans hb6).trans hb7).trans (hb8.mono (Nat.le_of_lt hR7.lt))
          have b8 := b4.trans (hb48.mono b4.size)
          rw [← hw8]
          clear hw8
          refine Calls.mono (c5_hit v old _ _ _ w7.heap.size ([] ++ xs.take k ++ [v] ++ xs.drop k) w8 (by simp only [List.length_append, List.length_nil, List.length_take, List.length_cons, List.length_drop]; omega) hS8 (by simp only [List.length_append, List.length_nil, List.length_take, List.length_cons, List.length_drop]; omega) hg8 hf8 hl8 (contains_mid xs k v)) ?_
          rintro e w9 ⟨rfl, hg9, hb9⟩
          have b9 := b8.trans (hb9.mono (Nat.le_trans b4.size (Nat.le_of_lt hR7.lt)))
          go_wp2_with fail
          go_ret
          exact ⟨rfl, b9⟩
      · have hno : Lib.containsS xs v = false := Bool.eq_false_iff.2 hin
        refine Calls.mono (c5_miss F v old (some ⟨w1.heap.size, 0, none⟩) xs.length xs.length w2.heap.size xs w3 rfl hF3 hS3 (by simp) (by omega) hjoin hg3 hl3 hno) ?_
        rintro e w4 ⟨he, hg4, hb4⟩
        obtain ⟨et, ev, rfl⟩ := he
        have hb34 : Below w2.heap.size w2 w4 := hb3.trans hb4
        have b4 := hbW.trans (hb34.mono hbW.size)
        have hR4 := hR2.below hb34 hR2.lt
        have hrm4 := row_made w4 (xs.length + 1)
        have hb5a := (Below.refl w4.heap.size w4).alloc (Nat.le_refl _) (.cells (madeCells #[.string ByteArray.empty] (xs.length + 1)) 9)
        have hT4 := (hR4.below hb5a hR4.lt).take k
        clear hg3 hf3 hl3 hS3 hF3 hS hjoin hb34 hb3 hb4 hR2
        have hX4 := hR4.below hb5a hR4.lt
        have hXl := hR4.lt
        go_wp2_with (first | (refine wpList_append_strs rfl (.tmp 101) (.tmp 104) rfl w4.heap.size _ _ [] (xs.take k) (some ⟨w1.heap.size, 0, none⟩) _ _ rfl rfl ?e0 ?e1 ?r1 ?s1 ?o1 ?_; (case e0 => rfl); (case e1 => rw [List.length_take]; omega); (case r1 => exact hrm4); (case s1 => exact hT4); (case o1 => omega); intro w5 hR5 hb5; have hX5 := hX4.below hb5 hXl; have hX5a := hX5.below ((Below.refl w5.heap.size w5).alloc (Nat.le_refl _) (.cells #[.string v] 9)) hX5.lt) | (refine wpList_append_strs rfl (.tmp 106) (.tmp 108) rfl w4.heap.size _ _ ([] ++ xs.take k) [v] (some ⟨w5.heap.size, 0, none⟩) _ _ rfl rfl ?e2 ?e3 ?r2 ?s2 ?o2 ?_; (case e2 => rw [List.nil_append, List.length_take]; omega); (case e3 => rfl); (case r2 => exact hR5.below ((Below.refl w5.heap.size w5).alloc (Nat.le_refl _) _) hR5.lt); (case s2 => exact strs_one w5 v); (case o2 => omega); intro w6 hR6 hb6; have hX6 := hX5a.below hb6 hXl; have hD6 := hX6.drop k) | (refine wpList_append_strs rfl (.tmp 110) (.tmp 113) rfl w4.heap.size _ _ ([] ++ xs.take k ++ [v]) (xs.drop k) _ _ _ rfl rfl ?e4 ?e5 ?r3 ?s3 ?o3 ?_; (case e4 => simp only [List.length_append, List.length_nil, List.length_take, List.length_cons]; omega); (case e5 => first | (rw [List.length_drop]; done) | (rw [List.length_drop]; omega)); (case r3 => exact hR6); (case s3 => first | exact strs_if hD6 | exact strs_none _ _ (by omega)); (case o3 => omega); intro w7 hR7 hb7))
        all_goals
          obtain ⟨w8, hw8⟩ : ∃ w8, w8 = w7.alloc (.cells #[.string old] 9) := ⟨_, rfl⟩
          have hb8 : Below w7.heap.size w7 w8 := by rw [hw8]; exact (Below.refl _ _).alloc (Nat.le_refl _) _
          have hg8 : w8.cell? ⟨w7.heap.size, 0, none⟩ = some (.string old) := by rw [hw8, World.cell?_alloc_at _ _ _ _ rfl]; rfl
          have hf8 : w8.frozen? ⟨w7.heap.size, 0, none⟩ = false := by rw [hw8]; exact frozen_of_row _ _ _ _ _ (heap_alloc_new _ _)
          have hl8 : w7.heap.size < w8.heap.size := by rw [hw8]; simp
          have hS8 := (hR7.below hb8 hR7.lt).strs
          have hb48 : Below w4.heap.size w4 w8 := ((((hb5a.trans hb5).alloc (Nat.le_trans hb5a.size hb5.size) _).trans hb6).trans hb7).trans (hb8.mono (Nat.le_of_lt hR7.lt))
          have b8 := b4.trans (hb48.mono b4.size)
          rw [← hw8]
          clear hw8
          refine Calls.mono (c5_hit v old _ _ _ w7.heap.size ([] ++ xs.take k ++ [v] ++ xs.drop k) w8 (by simp only [List.length_append, List.length_nil, List.length_take, List.length_cons, List.length_drop]; omega) hS8 (by simp only [List.length_append, List.length_nil, List.length_take, List.length_cons, List.length_drop]; omega) hg8 hf8 hl8 (contains_mid xs k v)) ?_
          rintro e w9 ⟨rfl, hg9, hb9⟩
          have b9 := b8.trans (hb9.mono (Nat.le_trans b4.size (Nat.le_of_lt hR7.lt)))
          go_wp2_with fail
          go_ret
          exact ⟨rfl, b9⟩

set_option maxRecDepth 100000 in
set_option maxHeartbeats 1000000 in
theorem law_nil (F : Interp) (v old : ByteArray) (t : Int) (w : World) (hF : F.answers w.tape) (hv : v.size ≤ 9223372036854775807) (ho : old.size ≤ 9223372036854775807) :
    Calls Tryf.prog 3 #[.string v, .slice none 0 0, .string old, .int .i64 t] w fun e w' => e = .returned (.bool true) ∧ Below w.heap.size w w' := by
  have hS : ∀ w' : World, StrsAt w' none [] := fun w' j x hj => by cases hj
  go_enter Tryf.func3, Tryf.ntmps3
  go_wp2_with fail
  refine Calls.mono (c4_any v old none 0 [] t w (hS w) hv ho (fun j x hj => by cases hj) (by simp)) ?_
  rintro e w1 ⟨hs, rfl⟩
  obtain ⟨b, rfl, _⟩ := hs
  cases b
  · go_wp2_with fail
    go_ret
    exact ⟨rfl, Below.refl _ _⟩
  go_wp2
  all_goals first
    | (go_ret
       exact ⟨rfl, Below.refl _ _⟩)
    | skip
  go_loop [10, 11] (fun s i => ∃ z : Int, s = .int .i64 z ∧ i = .int .i64 0) (fun _ _ => 0)
  case atStart => exact ⟨_, rfl, rfl⟩
  case round =>
    obtain ⟨z, rfl, rfl⟩ := hrel
    go_wp2
    all_goals first
      | (go_ret
         exact ⟨rfl, Below.refl _ _⟩)
      | skip
    obtain rfl : t = 0 := by omega
    go_loop [12, 13] (fun s i => s = .bool false ∧ i = .int .i64 0) (fun _ _ => 0)
    case atStart => exact ⟨rfl, rfl⟩
    case round =>
      obtain ⟨rfl, rfl⟩ := hrel
      obtain ⟨w3, hw3⟩ : ∃ w3, w3 = w1.alloc (.cells #[.string old] 9) := ⟨_, rfl⟩
      have hb3 : Below w1.heap.size w1 w3 := by rw [hw3]; exact (Below.refl _ _).alloc (Nat.le_refl _) _
      have hg3 : w3.cell? ⟨w1.heap.size, 0, none⟩ = some (.string old) := by rw [hw3, World.cell?_alloc_at _ _ _ _ rfl]; rfl
      have hl3 : w1.heap.size < w3.heap.size := by rw [hw3]; simp
      have hF3 : F.answers w3.tape := by rw [hb3.tape]; exact hF
      have hmk2 : ∀ w : World, (Instr.makeSlice 22 (.int .i64 0) (.int .i64 1)).run Tryf.prog w = .ok (.slice (some ⟨w.heap.size, 0, none⟩) 0 1) (w.alloc (.cells (madeCells #[.string ByteArray.empty] 1) 9)) := fun w => run_make_room 0 (by omega) w
      go_wp2_with fail
      rw [← hw3]
      clear hw3
      refine Calls.mono (c5_miss F v old none 0 0 w1.heap.size [] w3 rfl hF3 (hS _) (by simp) (by simp) (by simp [Lib.join]) hg3 hl3 rfl) ?_
      rintro e w4 ⟨he, hg4, hb4⟩
      obtain ⟨et, ev, rfl⟩ := he
      have b4 : Below w1.heap.size w1 w4 := hb3.trans hb4
      have hrm4 := row_made w4 1
      have hb5a := (Below.refl w4.heap.size w4).alloc (Nat.le_refl _) (.cells (madeCells #[.string ByteArray.empty] 1) 9)
      clear hg3 hl3 hF3 hb3 hb4
      go_wp2_with (first | (refine wpList_append_strs rfl (.tmp 101) (.tmp 104) rfl w4.heap.size _ _ [] [] none _ _ rfl rfl ?e0 ?e1 ?r1 ?s1 ?o1 ?_; (case e0 => rfl); (case e1 => rfl); (case r1 => exact hrm4); (case s1 => exact hS _); (case o1 => omega); intro w5 hR5 hb5) | (refine wpList_append_strs rfl (.tmp 106) (.tmp 108) rfl w4.heap.size _ _ ([] ++ []) [v] (some ⟨w5.heap.size, 0, none⟩) _ _ rfl rfl ?e2 ?e3 ?r2 ?s2 ?o2 ?_; (case e2 => rfl); (case e3 => rfl); (case r2 => exact hR5.below ((Below.refl w5.heap.size w5).alloc (Nat.le_refl _) _) hR5.lt); (case s2 => exact strs_one w5 v); (case o2 => omega); intro w6 hR6 hb6) | (refine wpList_append_strs rfl (.tmp 110) (.tmp 113) rfl w4.heap.size _ _ ([] ++ [] ++ [v]) [] none _ _ rfl rfl ?e4 ?e5 ?r3 ?s3 ?o3 ?_; (case e4 => rfl); (case e5 => rfl); (case r3 => exact hR6); (case s3 => exact hS _); (case o3 => omega); intro w7 hR7 hb7))
      obtain ⟨w8, hw8⟩ : ∃ w8, w8 = w7.alloc (.cells #[.string old] 9) := ⟨_, rfl⟩
      have hb8 : Below w7.heap.size w7 w8 := by rw [hw8]; exact (Below.refl _ _).alloc (Nat.le_refl _) _
      have hg8 : w8.cell? ⟨w7.heap.size, 0, none⟩ = some (.string old) := by rw [hw8, World.cell?_alloc_at _ _ _ _ rfl]; rfl
      have hf8 : w8.frozen? ⟨w7.heap.size, 0, none⟩ = false := by rw [hw8]; exact frozen_of_row _ _ _ _ _ (heap_alloc_new _ _)
      have hl8 : w7.heap.size < w8.heap.size := by rw [hw8]; simp
      have hS8 := (hR7.below hb8 hR7.lt).strs
      have hb48 : Below w4.heap.size w4 w8 := ((((hb5a.trans hb5).alloc (Nat.le_trans hb5a.size hb5.size) _).trans hb6).trans hb7).trans (hb8.mono (Nat.le_of_lt hR7.lt))
      have b8 := b4.trans (hb48.mono b4.size)
      rw [← hw8]
      clear hw8
      refine Calls.mono (c5_hit v old _ _ _ w7.heap.size ([] ++ [] ++ [v] ++ []) w8 rfl hS8 (by simp) hg8 hf8 hl8 ((Lib.containsS_iff _ _).2 (by simp))) ?_
      rintro e w9 ⟨rfl, hg9, hb9⟩
      have b9 := b8.trans (hb9.mono (Nat.le_trans b4.size (Nat.le_of_lt hR7.lt)))
      go_wp2_with fail
      go_ret
      exact ⟨rfl, b9⟩
end Go.Proofs.Qxb6616318aFmt
