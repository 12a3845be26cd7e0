import Derived.Test.YbulkfepsRows
import Derived.WalkKit
import Derived.ProofKit
import Derived.OpenShut
import Derived.ShutString
import Derived.ChangeOld
import Derived.Below
import Derived.BigQuiet
import Derived.Deep.QuietTactic
namespace Go.Proofs.Ybulkfeps.lawS7805AWhole
open Go.ChangeShapes Go.WideShapes Go.ChangeAt Go.RowKit
set_option linter.unusedVariables false

/-- The states of a member that is on its ring. -/
def onB (z : Int) : Bool := z == 1 || z == 4 || z == 5

set_option maxHeartbeats 400000 in
theorem aon_any (z : Int) (w : World) : Calls Yba.prog 5 #[.int .u8 z] w fun e w' => e = .returned (.bool (onB z)) ∧ w' = w := by
  by_cases h1 : z = 1
  · subst h1
    go_enter Yba.func5, Yba.ntmps5
    go_wp2
    go_ret
    exact ⟨rfl, rfl⟩
  · by_cases h4 : z = 4
    · subst h4
      go_enter Yba.func5, Yba.ntmps5
      go_wp2
      go_ret
      exact ⟨rfl, rfl⟩
    · by_cases h5 : z = 5
      · subst h5
        go_enter Yba.func5, Yba.ntmps5
        go_wp2
        go_ret
        exact ⟨rfl, rfl⟩
      · have e1 : (z == 1) = false := by simpa using h1
        have e4 : (z == 4) = false := by simpa using h4
        have e5 : (z == 5) = false := by simpa using h5
        have ho : onB z = false := by simp [onB, h1, h4, h5]
        go_enter Yba.func5, Yba.ntmps5
        go_wp2
        go_ret
        exact ⟨by rw [ho]; rfl, rfl⟩

set_option maxHeartbeats 400000 in
theorem onRing_any (b o : Nat) (z : Int) (w : World) (hc : w.cell? ⟨b, o + 1, none⟩ = some (.int .u8 z)) :
    Calls Yba.prog 13 #[.pointer (some ⟨b, o, none⟩)] w fun e w' => e = .returned (.bool (onB z)) ∧ w' = w := by
  by_cases h1 : z = 1
  · subst h1
    go_enter Yba.func13, Yba.ntmps13
    go_wp2
    go_ret
    exact ⟨rfl, rfl⟩
  · have e1 : (z == 1) = false := by simpa using h1
    by_cases h4 : z = 4
    · subst h4
      go_enter Yba.func13, Yba.ntmps13
      go_wp2
      go_ret
      exact ⟨rfl, rfl⟩
    · have e4 : (z == 4) = false := by simpa using h4
      by_cases h5 : z = 5
      · subst h5
        go_enter Yba.func13, Yba.ntmps13
        go_wp2
        go_ret
        exact ⟨rfl, rfl⟩
      · have e5 : (z == 5) = false := by simpa using h5
        have ho : onB z = false := by simp [onB, h1, h4, h5]
        go_enter Yba.func13, Yba.ntmps13
        go_wp2
        go_ret
        exact ⟨by rw [ho]; rfl, rfl⟩

set_option maxHeartbeats 400000 in
theorem ring_base (g : Nat) (w : World) :
    Calls Yba.prog 14 #[.pointer (some ⟨g, 0, none⟩), .int .i64 0] w fun e w' => e = .returned (.pointer (some ⟨g, 0, none⟩)) ∧ w' = w := by
  go_enter Yba.func14, Yba.ntmps14
  go_wp2
  go_ret
  exact ⟨rfl, rfl⟩

set_option maxHeartbeats 400000 in
theorem ring_level (g B n k : Nat) (hk : k < n) (hn : n ≤ 1048576) (w : World) (hc : w.cell? ⟨g, 10, none⟩ = some (.slice (some ⟨B, 0, none⟩) n n)) :
    Calls Yba.prog 14 #[.pointer (some ⟨g, 0, none⟩), .int .i64 ((k : Int) + 1)] w fun e w' => e = .returned (.pointer (some ⟨B, k * 10, none⟩)) ∧ w' = w := by
  have e0 : (((k : Int) + 1) == 0) = false := by simp; omega
  go_enter Yba.func14, Yba.ntmps14
  go_wp2
  go_ret
  exact ⟨rfl, rfl⟩

theorem all_take_succ (p : Int → Bool) (l : List Int) (k : Nat) (h : k < l.length) : (l.take (k + 1)).all p = ((l.take k).all p && p (l.getD k 0)) := by
  rw [List.take_succ_eq_append_getElem h, List.all_append]
  simp [List.getD, h]

theorem all_false (p : Int → Bool) (l : List Int) (k : Nat) (h : k < l.length) (hp : p (l.getD k 0) = false) : l.all p = false := by
  rw [List.all_eq_false]
  refine ⟨l.getD k 0, ?_, by rw [hp]; simp⟩
  simp [List.getD, h]

theorem step_all {zb z : Int} {ys : List Int} {j : Nat} (hj : j < ys.length) (hz : ys.getD j 0 = z) (ha : ((zb :: ys).take (j + 1)).all onB = true) (ho : onB z = true) : ((zb :: ys).take (j + 2)).all onB = true := by
  rw [all_take_succ onB (zb :: ys) (j + 1) (by simpa using hj), ha]
  have : (zb :: ys).getD (j + 1) 0 = z := by rw [← hz]; rfl
  rw [this, ho]; rfl

/-- What 'Joined' is to say. -/
def joinB (zb : Int) (ys : List Int) : Bool := (zb :: ys).all onB

theorem stop_all {zb z : Int} {ys : List Int} {j : Nat} (hj : j < ys.length) (hz : ys.getD j 0 = z) (ho : onB z = false) : joinB zb ys = false :=
  all_false onB (zb :: ys) (j + 1) (by simpa using hj) (by have : (zb :: ys).getD (j + 1) 0 = z := by { rw [← hz]; rfl }
                                                           rw [this, ho])

theorem end_all {zb : Int} {ys : List Int} {k : Nat} (hk : ys.length < k) (ha : ((zb :: ys).take k).all onB = true) : joinB zb ys = true := by
  unfold joinB
  rwa [List.take_of_length_le (by simp; omega)] at ha

set_option maxHeartbeats 800000 in
theorem joined_any (g B n : Nat) (zb : Int) (ys : List Int) (hl : ys.length = n) (hn : n ≤ 1048576) (ao : Option Addr) (hao : n = 0 ∨ ao = some ⟨B, 0, none⟩) (w : World) (hb : w.cell? ⟨g, 1, none⟩ = some (.int .u8 zb)) (hv : w.cell? ⟨g, 10, none⟩ = some (.slice ao n n))
    (hc : ∀ k, k < n → w.cell? ⟨B, k * 10 + 1, none⟩ = some (.int .u8 (ys.getD k 0))) :
    Calls Yba.prog 6 #[.pointer (some ⟨g, 0, none⟩)] w fun e w' => e = .returned (.bool (joinB zb ys)) ∧ w' = w := by
  have HL : Hid (ys.length = n) := hl
  have HC : Hid (∀ k, k < n → w.cell? ⟨B, k * 10 + 1, none⟩ = some (.int .u8 (ys.getD k 0))) := hc
  have HAO : Hid (n = 0 ∨ ao = some ⟨B, 0, none⟩) := hao
  clear hl hc hao
  go_enter Yba.func6, Yba.ntmps6
  go_wp2
  go_loop [3] (fun i => ∃ k : Nat, k ≤ n + 1 ∧ i = .int .i64 k ∧ ((zb :: ys).take k).all onB = true) (fun i => n + 1 - (intOf i).toNat)
  case atStart => exact ⟨0, Nat.zero_le _, rfl, rfl⟩
  case round =>
    obtain ⟨k, hk, rfl, hall⟩ := hrel
    have HA : Hid (((zb :: ys).take k).all onB = true) := hall
    clear hall
    by_cases hlt : k ≤ n
    · match k, hlt with
      | 0, _ =>
        cases hob : onB zb with
        | true =>
          go_wp2_with (first | (go_at_call 14; refine (ring_base _ _).mono ?_; rintro e w' ⟨rfl, rfl⟩) | (go_at_call 13; refine (onRing_any _ _ _ _ hb).mono ?_; rintro e w' ⟨rfl, rfl⟩))
          go_round
          case rel => exact ⟨1, by omega, by go_num, by simp [hob]⟩
          case measure => simp [intOf]
        | false =>
          go_wp2_with (first | (go_at_call 14; refine (ring_base _ _).mono ?_; rintro e w' ⟨rfl, rfl⟩) | (go_at_call 13; refine (onRing_any _ _ _ _ hb).mono ?_; rintro e w' ⟨rfl, rfl⟩))
          go_ret
          exact ⟨by simp [joinB, hob], rfl⟩
      | j + 1, hj =>
        have hao' : ao = some ⟨B, 0, none⟩ := by rcases HAO.out with h | h; exact absurd h (by omega); exact h
        subst hao'
        have hcj := HC.out j (by omega)
        have hjl : j < ys.length := by rw [HL.out]; omega
        generalize hz : ys.getD j 0 = z at hcj
        have HZ : Hid (ys.getD j 0 = z) := hz
        clear hz hjl
        cases hob : onB z with
        | true =>
          go_wp2_with (first | (go_at_call 14; refine (ring_level _ _ _ _ (by omega) hn _ hv).mono ?_; rintro e w' ⟨rfl, rfl⟩) | (go_at_call 13; refine (onRing_any _ _ _ _ hcj).mono ?_; rintro e w' ⟨rfl, rfl⟩))
          go_round
          case rel => exact ⟨j + 2, by omega, by go_num, step_all (by rw [HL.out]; omega) HZ.out HA.out hob⟩
          case measure => simp [intOf]; omega
        | false =>
          go_wp2_with (first | (go_at_call 14; refine (ring_level _ _ _ _ (by omega) hn _ hv).mono ?_; rintro e w' ⟨rfl, rfl⟩) | (go_at_call 13; refine (onRing_any _ _ _ _ hcj).mono ?_; rintro e w' ⟨rfl, rfl⟩))
          go_ret
          exact ⟨by rw [stop_all (by rw [HL.out]; omega) HZ.out hob]; rfl, rfl⟩
    · go_wp2
      go_ret
      exact ⟨by rw [end_all (by rw [HL.out]; omega) HA.out]; rfl, rfl⟩
end Go.Proofs.Ybulkfeps.lawS7805AWhole
