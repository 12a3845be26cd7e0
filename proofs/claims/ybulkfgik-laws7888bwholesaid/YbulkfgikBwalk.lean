import Derived.Test.YbulkfgikRows
import Derived.WalkKit
import Derived.ProofKit
import Derived.OpenShut
import Derived.ShutString
namespace Go.Proofs.Ybulkfgik.lawS7888BWhole
open Go.ChangeShapes Go.WideShapes Go.ChangeAt Go.RowKit
set_option linter.unusedVariables false

theorem as27_27 (v : Value) (w : World) : (Instr.typeAssert (.iface 27 v) 23 27 true).run Yba.prog w = .ok (.tuple #[v, .bool true]) w := by kernel_rfl
theorem as27_33 (v : Value) (w : World) : (Instr.typeAssert (.iface 27 v) 23 33 true).run Yba.prog w = .ok (.tuple #[.pointer none, .bool false]) w := by kernel_rfl
theorem as33_27 (v : Value) (w : World) : (Instr.typeAssert (.iface 33 v) 23 27 true).run Yba.prog w = .ok (.tuple #[.pointer none, .bool false]) w := by kernel_rfl
theorem as33_33 (v : Value) (w : World) : (Instr.typeAssert (.iface 33 v) 23 33 true).run Yba.prog w = .ok (.tuple #[v, .bool true]) w := by kernel_rfl
theorem as38_27 (v : Value) (w : World) : (Instr.typeAssert (.iface 38 v) 23 27 true).run Yba.prog w = .ok (.tuple #[.pointer none, .bool false]) w := by kernel_rfl
theorem as38_33 (v : Value) (w : World) : (Instr.typeAssert (.iface 38 v) 23 33 true).run Yba.prog w = .ok (.tuple #[.pointer none, .bool false]) w := by kernel_rfl
theorem as55_27 (v : Value) (w : World) : (Instr.typeAssert (.iface 55 v) 23 27 true).run Yba.prog w = .ok (.tuple #[.pointer none, .bool false]) w := by kernel_rfl
theorem as55_33 (v : Value) (w : World) : (Instr.typeAssert (.iface 55 v) 23 33 true).run Yba.prog w = .ok (.tuple #[.pointer none, .bool false]) w := by kernel_rfl
theorem as60_27 (v : Value) (w : World) : (Instr.typeAssert (.iface 60 v) 23 27 true).run Yba.prog w = .ok (.tuple #[.pointer none, .bool false]) w := by kernel_rfl
theorem as60_33 (v : Value) (w : World) : (Instr.typeAssert (.iface 60 v) 23 33 true).run Yba.prog w = .ok (.tuple #[.pointer none, .bool false]) w := by kernel_rfl
theorem as67_27 (v : Value) (w : World) : (Instr.typeAssert (.iface 67 v) 23 27 true).run Yba.prog w = .ok (.tuple #[.pointer none, .bool false]) w := by kernel_rfl
theorem as67_33 (v : Value) (w : World) : (Instr.typeAssert (.iface 67 v) 23 33 true).run Yba.prog w = .ok (.tuple #[.pointer none, .bool false]) w := by kernel_rfl
theorem as72_27 (v : Value) (w : World) : (Instr.typeAssert (.iface 72 v) 23 27 true).run Yba.prog w = .ok (.tuple #[.pointer none, .bool false]) w := by kernel_rfl
theorem as72_33 (v : Value) (w : World) : (Instr.typeAssert (.iface 72 v) 23 33 true).run Yba.prog w = .ok (.tuple #[.pointer none, .bool false]) w := by kernel_rfl
theorem asn_27 (w : World) : (Instr.typeAssert .nilIface 23 27 true).run Yba.prog w = .ok (.tuple #[.pointer none, .bool false]) w := by kernel_rfl
theorem asn_33 (w : World) : (Instr.typeAssert .nilIface 23 33 true).run Yba.prog w = .ok (.tuple #[.pointer none, .bool false]) w := by kernel_rfl

set_option maxHeartbeats 800000 in
theorem build0 (p : Bool) (a b c : ByteArray) (w : World) :
    Calls Yba.prog 4 #[.int .u8 0, .bool p, .string a, .string b, .string c] w fun e w' => (∃ q, e = .returned (.iface 27 (.pointer q))) ∧ Grown w w' := by
  cases p
  all_goals
    go_enter Yba.func4, Yba.ntmps4
    go_wp2
    go_ret
    exact ⟨⟨_, rfl⟩, by repeat (first | exact Grown.refl _ | apply Grown.drew | apply Grown.alloc)⟩

set_option maxHeartbeats 800000 in
theorem isKey0 (q : Option Addr) (w : World) :
    Calls Yba.prog 5 #[.iface 27 (.pointer q)] w fun e w' => e = .returned (.bool true) ∧ w' = w := by
  have h1 := as27_27
  have h2 := as27_33
  go_enter Yba.func5, Yba.ntmps5
  go_wp2
  go_ret
  exact ⟨rfl, rfl⟩

set_option maxHeartbeats 800000 in
theorem build1 (p : Bool) (a b c : ByteArray) (w : World) :
    Calls Yba.prog 4 #[.int .u8 1, .bool p, .string a, .string b, .string c] w fun e w' => (∃ q, e = .returned (.iface 33 (.pointer q))) ∧ Grown w w' := by
  cases p
  all_goals
    go_enter Yba.func4, Yba.ntmps4
    go_wp2
    go_ret
    exact ⟨⟨_, rfl⟩, by repeat (first | exact Grown.refl _ | apply Grown.drew | apply Grown.alloc)⟩

set_option maxHeartbeats 800000 in
theorem isKey1 (q : Option Addr) (w : World) :
    Calls Yba.prog 5 #[.iface 33 (.pointer q)] w fun e w' => e = .returned (.bool true) ∧ w' = w := by
  have h1 := as33_27
  have h2 := as33_33
  go_enter Yba.func5, Yba.ntmps5
  go_wp2
  go_ret
  exact ⟨rfl, rfl⟩

set_option maxHeartbeats 800000 in
theorem build2 (p : Bool) (a b c : ByteArray) (w : World) :
    Calls Yba.prog 4 #[.int .u8 2, .bool p, .string a, .string b, .string c] w fun e w' => (∃ q, e = .returned (.iface 38 (.pointer q))) ∧ Grown w w' := by
  cases p
  all_goals
    go_enter Yba.func4, Yba.ntmps4
    go_wp2
    go_ret
    exact ⟨⟨_, rfl⟩, by repeat (first | exact Grown.refl _ | apply Grown.drew | apply Grown.alloc)⟩

set_option maxHeartbeats 800000 in
theorem isKey2 (q : Option Addr) (w : World) :
    Calls Yba.prog 5 #[.iface 38 (.pointer q)] w fun e w' => e = .returned (.bool false) ∧ w' = w := by
  have h1 := as38_27
  have h2 := as38_33
  go_enter Yba.func5, Yba.ntmps5
  go_wp2
  go_ret
  exact ⟨rfl, rfl⟩

set_option maxHeartbeats 800000 in
theorem build3 (p : Bool) (a b c : ByteArray) (w : World) :
    Calls Yba.prog 4 #[.int .u8 3, .bool p, .string a, .string b, .string c] w fun e w' => (∃ q, e = .returned (.iface 55 (.pointer q))) ∧ Grown w w' := by
  cases p
  all_goals
    go_enter Yba.func4, Yba.ntmps4
    go_wp2
    go_ret
    exact ⟨⟨_, rfl⟩, by repeat (first | exact Grown.refl _ | apply Grown.drew | apply Grown.alloc)⟩

set_option maxHeartbeats 800000 in
theorem isKey3 (q : Option Addr) (w : World) :
    Calls Yba.prog 5 #[.iface 55 (.pointer q)] w fun e w' => e = .returned (.bool false) ∧ w' = w := by
  have h1 := as55_27
  have h2 := as55_33
  go_enter Yba.func5, Yba.ntmps5
  go_wp2
  go_ret
  exact ⟨rfl, rfl⟩

set_option maxHeartbeats 800000 in
theorem build4 (p : Bool) (a b c : ByteArray) (w : World) :
    Calls Yba.prog 4 #[.int .u8 4, .bool p, .string a, .string b, .string c] w fun e w' => (∃ q, e = .returned (.iface 60 (.pointer q))) ∧ Grown w w' := by
  cases p
  all_goals
    go_enter Yba.func4, Yba.ntmps4
    go_wp2
    go_ret
    exact ⟨⟨_, rfl⟩, by repeat (first | exact Grown.refl _ | apply Grown.drew | apply Grown.alloc)⟩

set_option maxHeartbeats 800000 in
theorem isKey4 (q : Option Addr) (w : World) :
    Calls Yba.prog 5 #[.iface 60 (.pointer q)] w fun e w' => e = .returned (.bool false) ∧ w' = w := by
  have h1 := as60_27
  have h2 := as60_33
  go_enter Yba.func5, Yba.ntmps5
  go_wp2
  go_ret
  exact ⟨rfl, rfl⟩

set_option maxHeartbeats 800000 in
theorem build5 (p : Bool) (a b c : ByteArray) (w : World) :
    Calls Yba.prog 4 #[.int .u8 5, .bool p, .string a, .string b, .string c] w fun e w' => (∃ q, e = .returned (.iface 67 (.pointer q))) ∧ Grown w w' := by
  cases p
  all_goals
    go_enter Yba.func4, Yba.ntmps4
    go_wp2
    go_ret
    exact ⟨⟨_, rfl⟩, by repeat (first | exact Grown.refl _ | apply Grown.drew | apply Grown.alloc)⟩

set_option maxHeartbeats 800000 in
theorem isKey5 (q : Option Addr) (w : World) :
    Calls Yba.prog 5 #[.iface 67 (.pointer q)] w fun e w' => e = .returned (.bool false) ∧ w' = w := by
  have h1 := as67_27
  have h2 := as67_33
  go_enter Yba.func5, Yba.ntmps5
  go_wp2
  go_ret
  exact ⟨rfl, rfl⟩

set_option maxHeartbeats 800000 in
theorem build6 (p : Bool) (a b c : ByteArray) (w : World) :
    Calls Yba.prog 4 #[.int .u8 6, .bool p, .string a, .string b, .string c] w fun e w' => (∃ q, e = .returned (.iface 72 (.pointer q))) ∧ Grown w w' := by
  cases p
  all_goals
    go_enter Yba.func4, Yba.ntmps4
    go_wp2
    go_ret
    exact ⟨⟨_, rfl⟩, by repeat (first | exact Grown.refl _ | apply Grown.drew | apply Grown.alloc)⟩

set_option maxHeartbeats 800000 in
theorem isKey6 (q : Option Addr) (w : World) :
    Calls Yba.prog 5 #[.iface 72 (.pointer q)] w fun e w' => e = .returned (.bool false) ∧ w' = w := by
  have h1 := as72_27
  have h2 := as72_33
  go_enter Yba.func5, Yba.ntmps5
  go_wp2
  go_ret
  exact ⟨rfl, rfl⟩

set_option maxHeartbeats 800000 in
theorem build7 (p : Bool) (a b c : ByteArray) (w : World) :
    Calls Yba.prog 4 #[.int .u8 7, .bool p, .string a, .string b, .string c] w fun e w' => e = .returned .nilIface ∧ Grown w w' := by
  go_enter Yba.func4, Yba.ntmps4
  go_wp2
  go_ret
  exact ⟨rfl, Grown.refl _⟩

set_option maxHeartbeats 800000 in
theorem isKey7 (w : World) :
    Calls Yba.prog 5 #[.nilIface] w fun e w' => e = .returned (.bool false) ∧ w' = w := by
  have h1 := asn_27
  have h2 := asn_33
  go_enter Yba.func5, Yba.ntmps5
  go_wp2
  go_ret
  exact ⟨rfl, rfl⟩

set_option maxHeartbeats 1600000 in
theorem law_any (z : Int) (h0 : 0 ≤ z) (h255 : z ≤ 255) (p : Bool) (a b c : ByteArray) (w : World) :
    Calls Yba.prog 3 #[.int .u8 z, .bool p, .string a, .string b, .string c] w fun e w' => e = .returned (.bool true) ∧ Grown w w' := by
  have hk : z % 8 = 0 ∨ z % 8 = 1 ∨ z % 8 = 2 ∨ z % 8 = 3 ∨ z % 8 = 4 ∨ z % 8 = 5 ∨ z % 8 = 6 ∨ z % 8 = 7 := by omega
  rcases hk with hk | hk | hk | hk | hk | hk | hk | hk
  · go_enter Yba.func3, Yba.ntmps3
    go_wp2_with fail
    refine (build0 _ _ _ _ _).mono ?_
    rintro e w1 ⟨⟨q, rfl⟩, hg⟩
    go_wp2_with fail
    refine (isKey0 _ _).mono ?_
    rintro e w2 ⟨rfl, rfl⟩
    go_wp2
    go_ret
    exact ⟨rfl, hg⟩
  · go_enter Yba.func3, Yba.ntmps3
    go_wp2_with fail
    refine (build1 _ _ _ _ _).mono ?_
    rintro e w1 ⟨⟨q, rfl⟩, hg⟩
    go_wp2_with fail
    refine (isKey1 _ _).mono ?_
    rintro e w2 ⟨rfl, rfl⟩
    go_wp2
    go_ret
    exact ⟨rfl, hg⟩
  · go_enter Yba.func3, Yba.ntmps3
    go_wp2_with fail
    refine (build2 _ _ _ _ _).mono ?_
    rintro e w1 ⟨⟨q, rfl⟩, hg⟩
    go_wp2_with fail
    refine (isKey2 _ _).mono ?_
    rintro e w2 ⟨rfl, rfl⟩
    go_wp2
    go_ret
    exact ⟨rfl, hg⟩
  · go_enter Yba.func3, Yba.ntmps3
    go_wp2_with fail
    refine (build3 _ _ _ _ _).mono ?_
    rintro e w1 ⟨⟨q, rfl⟩, hg⟩
    go_wp2_with fail
    refine (isKey3 _ _).mono ?_
    rintro e w2 ⟨rfl, rfl⟩
    go_wp2
    go_ret
    exact ⟨rfl, hg⟩
  · go_enter Yba.func3, Yba.ntmps3
    go_wp2_with fail
    refine (build4 _ _ _ _ _).mono ?_
    rintro e w1 ⟨⟨q, rfl⟩, hg⟩
    go_wp2_with fail
    refine (isKey4 _ _).mono ?_
    rintro e w2 ⟨rfl, rfl⟩
    go_wp2
    go_ret
    exact ⟨rfl, hg⟩
  · go_enter Yba.func3, Yba.ntmps3
    go_wp2_with fail
    refine (build5 _ _ _ _ _).mono ?_
    rintro e w1 ⟨⟨q, rfl⟩, hg⟩
    go_wp2_with fail
    refine (isKey5 _ _).mono ?_
    rintro e w2 ⟨rfl, rfl⟩
    go_wp2
    go_ret
    exact ⟨rfl, hg⟩
  · go_enter Yba.func3, Yba.ntmps3
    go_wp2_with fail
    refine (build6 _ _ _ _ _).mono ?_
    rintro e w1 ⟨⟨q, rfl⟩, hg⟩
    go_wp2_with fail
    refine (isKey6 _ _).mono ?_
    rintro e w2 ⟨rfl, rfl⟩
    go_wp2
    go_ret
    exact ⟨rfl, hg⟩
  · go_enter Yba.func3, Yba.ntmps3
    go_wp2_with fail
    refine (build7 _ _ _ _ _).mono ?_
    rintro e w1 ⟨rfl, hg⟩
    go_wp2_with fail
    refine (isKey7 _).mono ?_
    rintro e w2 ⟨rfl, rfl⟩
    go_wp2
    go_ret
    exact ⟨rfl, hg⟩
end Go.Proofs.Ybulkfgik.lawS7888BWhole
