import Derived.Test.YbulkffcqDoorRows
import Derived.WalkKit
import Derived.ProofKit
import Derived.Below
import Derived.Deep.Light
import Derived.WalkSpells
import Derived.WalkSmall
import Derived.BigQuiet
import Derived.Deep.QuietTactic
namespace Go.Proofs.YbulkffcqDoor
open Go.RowKit
set_option linter.unusedVariables false

/-- The table of the program's text. -/
def tabL : List (List Bool) := [[true, true, true, true, true, true, true], [true, true, true, true, true, false, false], [true, true, true, false, false, false, false], [true, true, false, true, false, false, false], [true, true, false, false, false, false, false], [true, false, false, true, false, false, false], [true, false, false, false, false, false, false]]
def tabB (r g : Nat) : Bool := (tabL.getD r []).getD g false
/-- Compatible. -/
def cmp (r g : Nat) : Bool := decide (r < 7) && decide (g < 7) && tabB r g

/-- What the walk is told of the table's block. -/
def Glob (w : World) : Prop := ∀ r g, r < 7 → g < 7 → w.cell? ⟨0, r * 7 + g, none⟩ = some (.bool (tabB r g))

theorem ret_bool {a b : Bool} (h : a = b) : Ending.returned (.bool a) = .returned (.bool b) := by rw [h]

set_option maxHeartbeats 400000 in
theorem valid_any (r : Nat) (hr : r ≤ 255) (w : World) : Calls Ybad.prog 11 #[.int .u8 (r : Int)] w fun e w' => e = .returned (.bool (decide (r < 7))) ∧ w' = w := by
  go_enter Ybad.func11, Ybad.ntmps11
  go_wp2
  go_ret
  exact ⟨ret_bool (by rw [decide_eq_decide]; omega), rfl⟩

set_option maxHeartbeats 400000 in
theorem compat_any (r g : Nat) (hr : r ≤ 255) (hg : g ≤ 255) (w : World) (hG : Glob w) : Calls Ybad.prog 10 #[.int .u8 (r : Int), .int .u8 (g : Int)] w fun e w' => e = .returned (.bool (cmp r g)) ∧ w' = w := by
  have HG : Hid (Glob w) := hG
  clear hG
  by_cases h7 : r < 7
  · have d7 : decide (r < 7) = true := by simpa using h7
    by_cases g7 : g < 7
    · have e7 : decide (g < 7) = true := by simpa using g7
      have hc : w.cell? ⟨0, r * 7 + g, none⟩ = some (.bool (tabB r g)) := HG.out r g h7 g7
      have hcmp : cmp r g = tabB r g := by simp [cmp, h7, g7]
      have HC : Hid (cmp r g = tabB r g) := hcmp
      clear hcmp
      go_enter Ybad.func10, Ybad.ntmps10
      go_wp2_with (go_at_call 11; refine (valid_any _ (by omega) _).mono ?_; rintro e w' ⟨rfl, rfl⟩)
      go_ret
      exact ⟨ret_bool HC.out.symm, rfl⟩
    · have e7 : decide (g < 7) = false := by simpa using g7
      have hcmp : cmp r g = false := by simp [cmp, g7]
      have HC : Hid (cmp r g = false) := hcmp
      clear hcmp
      go_enter Ybad.func10, Ybad.ntmps10
      go_wp2_with (go_at_call 11; refine (valid_any _ (by omega) _).mono ?_; rintro e w' ⟨rfl, rfl⟩)
      go_ret
      exact ⟨ret_bool HC.out.symm, rfl⟩
  · have d7 : decide (r < 7) = false := by simpa using h7
    have hcmp : cmp r g = false := by simp [cmp, h7]
    have HC : Hid (cmp r g = false) := hcmp
    clear hcmp
    go_enter Ybad.func10, Ybad.ntmps10
    go_wp2_with (go_at_call 11; refine (valid_any _ (by omega) _).mono ?_; rintro e w' ⟨rfl, rfl⟩)
    go_ret
    exact ⟨ret_bool HC.out.symm, rfl⟩

def rowN (r : Nat) : Int := [127, 31, 7, 11, 3, 9, 1].getD r 0
theorem rowN_at (w : World) (r : Nat) (hr : r < 7) : (w.alloc (.cells #[.int .u8 127, .int .u8 31, .int .u8 7, .int .u8 11, .int .u8 3, .int .u8 9, .int .u8 1] 53)).cell? ⟨w.heap.size, r, none⟩ = some (.int .u8 (rowN r)) := by
  rw [cell_of_row _ _ _ _ _ _ (heap_alloc_new w _)]
  match r, hr with
  | 0, _ => rfl
  | 1, _ => rfl
  | 2, _ => rfl
  | 3, _ => rfl
  | 4, _ => rfl
  | 5, _ => rfl
  | 6, _ => rfl

theorem row_bit : ∀ r, r < 7 → ∀ g, g < 7 → (bits .and .u8 (rowN r / 2 ^ g) 1 == 1) = tabB r g := by decide

set_option maxHeartbeats 400000 in
theorem zz_in (r g : Nat) (hr : r < 7) (hg : g < 7) (w : World) : Calls Ybad.prog 7 #[.int .u8 (r : Int), .int .u8 (g : Int)] w fun e w' => e = .returned (.bool (cmp r g)) ∧ Below w.heap.size w w' := by
  have hb : (bits .and .u8 (rowN r / 2 ^ g) 1 == 1) = cmp r g := by rw [row_bit r hr g hg]; simp [cmp, hr, hg]
  have HB : Hid ((bits .and .u8 (rowN r / 2 ^ g) 1 == 1) = cmp r g) := hb
  clear hb
  have hc := rowN_at w r hr
  go_enter Ybad.func7, Ybad.ntmps7
  go_wp2
  go_ret
  exact ⟨ret_bool HB.out, ((Below.refl _ _).alloc (Nat.le_refl _) _)⟩

set_option maxHeartbeats 400000 in
theorem zz_any (r g : Nat) (w : World) : Calls Ybad.prog 7 #[.int .u8 (r : Int), .int .u8 (g : Int)] w fun e w' => e = .returned (.bool (cmp r g)) ∧ Below w.heap.size w w' := by
  by_cases h7 : r < 7
  · by_cases g7 : g < 7
    · exact zz_in r g h7 g7 w
    · have hcmp : cmp r g = false := by simp [cmp, g7]
      have HC : Hid (cmp r g = false) := hcmp
      clear hcmp
      have d7 : decide ((7 : Int) ≤ (r : Int)) = false := by simp; omega
      have e7 : decide ((7 : Int) ≤ (g : Int)) = true := by simp; omega
      go_enter Ybad.func7, Ybad.ntmps7
      go_wp2
      go_ret
      exact ⟨ret_bool HC.out.symm, Below.refl _ _⟩
  · have hcmp : cmp r g = false := by simp [cmp, h7]
    have HC : Hid (cmp r g = false) := hcmp
    clear hcmp
    have d7 : decide ((7 : Int) ≤ (r : Int)) = true := by simp; omega
    go_enter Ybad.func7, Ybad.ntmps7
    go_wp2
    go_ret
    exact ⟨ret_bool HC.out.symm, Below.refl _ _⟩

/-- A grant of modes a, b blocks mode m. -/
def blkB (m a b : Nat) : Bool := !cmp m a || !cmp m b

set_option maxHeartbeats 400000 in
theorem blocks_any (G m a b : Nat) (hm : m ≤ 255) (ha : a ≤ 255) (hb : b ≤ 255) (w : World) (hG : Glob w) (c5 : w.cell? ⟨G, 5, none⟩ = some (.int .u8 (a : Int))) (c6 : w.cell? ⟨G, 6, none⟩ = some (.int .u8 (b : Int))) :
    Calls Ybad.prog 9 #[.pointer (some ⟨G, 0, none⟩), .int .u8 (m : Int)] w fun e w' => e = .returned (.bool (blkB m a b)) ∧ w' = w := by
  have HG : Hid (Glob w) := hG
  clear hG
  cases h1 : cmp m a with
  | false =>
    have hbl : blkB m a b = true := by simp [blkB, h1]
    have HB : Hid (blkB m a b = true) := hbl
    clear hbl
    go_enter Ybad.func9, Ybad.ntmps9
    go_wp2_with fail
    refine (compat_any m a hm ha _ HG.out).mono ?_
    rw [h1]
    rintro e w' ⟨rfl, rfl⟩
    go_wp2
    go_ret
    exact ⟨ret_bool HB.out.symm, rfl⟩
  | true =>
    have hbl : blkB m a b = !cmp m b := by simp [blkB, h1]
    have HB : Hid (blkB m a b = !cmp m b) := hbl
    clear hbl
    go_enter Ybad.func9, Ybad.ntmps9
    go_wp2_with fail
    refine (compat_any m a hm ha _ HG.out).mono ?_
    rw [h1]
    rintro e w' ⟨rfl, rfl⟩
    go_wp2_with fail
    refine (compat_any m b hm hb _ HG.out).mono ?_
    rintro e w' ⟨rfl, rfl⟩
    go_wp2
    go_ret
    exact ⟨ret_bool HB.out.symm, rfl⟩
end Go.Proofs.YbulkffcqDoor
