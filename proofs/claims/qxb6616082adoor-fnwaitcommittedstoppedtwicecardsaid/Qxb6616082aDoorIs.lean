/-
  errors.Is at the sentinel (after the guide's worked text, at this dump's numbers).
-/
import Derived.Test.Qxb6616082aDoorRows
import Derived.WalkKit
import Derived.LaidEql
import Derived.Stop.Asserts
import Derived.RowKitTokens
namespace Go.Proofs.Qxb6616082aDoor
open Go.RowKit Go.Extern.Stop Go.Stop Go.Extern

theorem isTypeOf (v : Value) (w : World) : (callFunc 19 #[.iface 144 v]).run Tryd.prog w = .ok (.value (.iface 122 (.agg #[.pointer (some ⟨1, 144, none⟩)]))) w := by kernel_rfl
theorem isComparable (w : World) : (callFunc 75 #[.agg #[.pointer (some ⟨1, 144, none⟩)]]).run Tryd.prog w = .ok (.value (.bool true)) w := by kernel_rfl
theorem isMethodComparable (v : Value) (w : World) : (Go.method 464 122 v "Comparable").run Tryd.prog w = .ok (75, v) w := by kernel_rfl
theorem isComp : (Tryd.prog.info? 144).map (·.comparable) = some true := by kernel_rfl
theorem isSize : (Tryd.prog.info? 267).map (·.size) = some 1 := by kernel_rfl

set_option maxRecDepth 100000 in
set_option maxHeartbeats 1000000 in
theorem is_same (a : Addr) (w : World) :
    Calls Tryd.prog 12 #[.iface 144 (.pointer (some a)), .iface 144 (.pointer (some a))] w fun e w' => e = .returned (.bool true) ∧ w' = w := by
  obtain ⟨i, hi, hcmp⟩ := Option.map_eq_some_iff.1 isComp
  obtain ⟨j, hj, hjs⟩ := Option.map_eq_some_iff.1 isSize
  have tT := isTypeOf
  have cT := isComparable
  have mR := isMethodComparable
  have heq := run_eql_iface_ptr_same (P := Tryd.prog) w a Tryd.underlying99 Tryd.underlying144 hi hcmp hj
  go_enter Tryd.func12, Tryd.ntmps12
  go_wp2
  refine wp_loop_rounds 1 ?_
  rw [rounds_succ]
  go_wp2
  go_ret
  exact ⟨rfl, rfl⟩

set_option maxRecDepth 100000 in
theorem is_nil (b : Addr) (w : World) :
    Calls Tryd.prog 12 #[.nilIface, .iface 144 (.pointer (some b))] w fun e w' => e = .returned (.bool false) ∧ w' = w := by
  have hn := run_eql_iface_nil_left (P := Tryd.prog) w 144 (.pointer (some b)) Tryd.underlying99
  go_enter Tryd.func12, Tryd.ntmps12
  go_wp2
  go_ret
  exact ⟨rfl, rfl⟩
end Go.Proofs.Qxb6616082aDoor
