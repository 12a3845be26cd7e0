import Derived.Test.YbulkffegRows
import Derived.Test.YbulkffegPlain
import Derived.WalkKit
import Derived.ProofKit
import Derived.OpenShut
import Derived.ShutString
import Derived.Deep.Light
namespace Go.Proofs.Ybulkffeg.lawS7832BWhole
open Go.ChangeShapes Go.WideShapes Go.ChangeAt Go.RowKit
set_option linter.unusedVariables false

theorem ret_u64 {a b : Int} (h : a = b) : Ending.returned (.int .u64 a) = .returned (.int .u64 b) := by rw [h]

set_option maxHeartbeats 800000 in
theorem val_any (b : Int) (w : World) :
    Calls Yba.prog 4 #[.int .u64 b] w fun e w' => e = .returned (.int .u64 (s4 (s3 (s2 (s1 b))))) ∧ w' = w := by
  go_enter Yba.func4, Yba.ntmps4
  go_wp2
  go_ret
  exact ⟨rfl, rfl⟩

set_option maxHeartbeats 800000 in
theorem law_any (X : Nat) (hX : X < 18446744073709551616) (w : World) :
    Calls Yba.prog 3 #[.int .u64 (X : Int)] w fun e w' => e = .returned (.bool true) ∧ w' = w := by
  have HX : Hid (X < 18446744073709551616) := hX
  clear hX
  go_enter Yba.func3, Yba.ntmps3
  go_wp2
  go_loop [3, 4, 5] (fun b v i => ∃ k : Nat, k ≤ 8 ∧ i = .int .u64 k ∧ b = .int .u64 (accB X k) ∧ v = .int .u64 (accV X k)) (fun _ _ i => 8 - (intOf i).toNat)
  case atStart => exact ⟨0, by omega, rfl, rfl, rfl⟩
  case round =>
    obtain ⟨k, hk, rfl, rfl, rfl⟩ := hrel
    by_cases hlt : k < 8
    · go_wp2
      go_round
      case rel =>
        go_light
        refine ⟨k + 1, by omega, by go_num, ?_, ?_⟩
        · rw [rd X k HX.out, rb X k hlt]
        · rw [rd X k HX.out, rv X k hlt]
      case measure => simp [intOf]; omega
    · obtain rfl : 8 = k := by omega
      go_wp2_with fail
      refine (val_any _ _).mono ?_
      rw [value X]
      rintro e w' ⟨rfl, rfl⟩
      go_wp2
      go_ret
      exact ⟨rfl, rfl⟩
end Go.Proofs.Ybulkffeg.lawS7832BWhole
