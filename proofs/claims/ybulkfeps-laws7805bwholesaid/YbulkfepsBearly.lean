/-
  The two early returns of the law: more than 4096 steps, or more than 4096 queries.
-/
import Derived.Test.YbulkfepsBmain0
namespace Go.Proofs.Ybulkfeps.lawS7805BWhole
open Go.ChangeShapes Go.WideShapes Go.ChangeAt Go.RowKit
set_option linter.unusedVariables false

set_option maxRecDepth 100000 in
set_option maxHeartbeats 4000000 in
theorem early_ops (w : World) (n a b : Int) (ao ab aq : Option Addr) (len cap lb cb ql qc : Nat) (hl : 4096 < len) :
    Calls Yba.prog 4 #[.int .u8 n, .slice ao len cap, .slice ab lb cb, .int .u8 a, .int .u8 b, .slice aq ql qc] w fun e w' => e = .returned (.bool true) ∧ Below w.heap.size w w' := by
  have hlI : (len : Int) > 4096 := by omega
  go_enter Yba.func4, Yba.ntmps4
  go_wp2_with fail
  go_ret
  exact ⟨rfl, (Below.refl _ _).alloc (Nat.le_refl _) _⟩

set_option maxRecDepth 100000 in
set_option maxHeartbeats 4000000 in
theorem early_qs (w : World) (n a b : Int) (ao ab aq : Option Addr) (len cap lb cb ql qc : Nat) (hl : len ≤ 4096) (hq : 4096 < ql) :
    Calls Yba.prog 4 #[.int .u8 n, .slice ao len cap, .slice ab lb cb, .int .u8 a, .int .u8 b, .slice aq ql qc] w fun e w' => e = .returned (.bool true) ∧ Below w.heap.size w w' := by
  have hlI : ¬ (len : Int) > 4096 := by omega
  have hqI : (ql : Int) > 4096 := by omega
  go_enter Yba.func4, Yba.ntmps4
  go_wp2_with fail
  go_ret
  exact ⟨rfl, (Below.refl _ _).alloc (Nat.le_refl _) _⟩
end Go.Proofs.Ybulkfeps.lawS7805BWhole
