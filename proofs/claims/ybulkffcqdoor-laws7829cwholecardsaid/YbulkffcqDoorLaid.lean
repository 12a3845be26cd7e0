import Derived.Test.YbulkffcqDoorRows
import Derived.Test.YbulkffcqDoorCompat
import Derived.ProofKit
import Derived.LaidMore
import Derived.OpenShut
import Derived.Stop.Joined
import Derived.ChangeVars
import Derived.ChangeArms
namespace Go.Proofs.YbulkffcqDoor
open Go.ChangeShapes Go.WideShapes Go.ChangeAt Go.RowKit

/-- The listed variable's name, as the row has it. -/
def tabName : String := (Rows.lawS7829CWholeRow.laid.map (·.1)).headD ""
theorem gTab : Ybad.prog.globalNamed tabName = some 0 := by kernel_rfl
theorem tTab : (Ybad.prog.globals[0]?).map (·.type) = some 56 := by kernel_rfl
theorem cells56 : Ybad.prog.cellsOf 56 = 49 := by kernel_rfl
theorem cells55 : Ybad.prog.cellsOf 55 = 7 := by kernel_rfl
theorem cells4 : Ybad.prog.cellsOf 4 = 1 := by kernel_rfl

/-- One row of the listed datum. -/
def rowD {H : Type} (i : Nat) : DataW H := .agg ((tabL.getD i []).map fun b => .lit (.bool b))
/-- The listed datum. -/
def tabD {H : Type} : DataW H := .agg ((List.range 7).map rowD)
theorem tabD_eq : (Rows.laid_example_com_grainlock_grainlock_compatibility : DataW Unit) = tabD := rfl
theorem rowsLen : ∀ i, i < 7 → (tabL.getD i []).length = 7 := by decide

/-- The table's cells. -/
def tabCells : Array Value := ((tabL.flatten).map Value.bool).toArray
theorem tabCells_at : ∀ i, i < 7 → ∀ j, j < 7 → (tabL.flatten)[i * 7 + j]? = some (tabB i j) := by decide

theorem getD_at (l : List Bool) (j : Nat) (h : j < l.length) : l.getD j false = l[j] := by simp [List.getD, h]

theorem row_cells {H : Type} {enc : TypeId × Value → H} {W : World} {base : Nat} {sp : Nat → Bool} {held : Bool} {fuel i : Nat} {cs : List Value} {ps : List MemPlace} (hi : i < 7)
    (h : DataW.trod enc Ybad.prog W base sp held fuel 55 cs = some (rowD i, ps)) : ∀ j, j < 7 → cs[j]? = some (.bool (tabB i j)) := by
  obtain ⟨ys, m, rfl, hx, hlen, hn, hel⟩ := DataW.trod_array Ybad.underlying55 h
  rw [cells55] at hlen
  intro j hj
  have hj' := hel j hj
  rw [cells4, Nat.mul_one] at hj'
  obtain ⟨y, hy⟩ : ∃ y, ys[j]? = some y := ⟨ys[j]'(by omega), List.getElem?_eq_getElem (by omega)⟩
  rw [hy] at hj'
  obtain ⟨b, hb, rfl⟩ := DataW.trod_bool Ybad.underlying4 hj'
  simp only [rowD, Prod.mk.injEq, DataW.agg.injEq] at hx
  have h1 := congrArg (fun l => l[j]?) hx.1
  have hr := rowsLen i hi
  simp only [List.getElem?_map, hy, Option.map_some] at h1
  rw [List.getElem?_eq_getElem (show j < (tabL.getD i []).length by omega)] at h1
  simp only [Option.map_some, Option.some.injEq, DataW.lit.injEq, Lit.bool.injEq] at h1
  have h2 : tabB i j = b := by
    unfold tabB
    rw [← h1]
    exact getD_at _ _ _
  have h3 := congrArg (fun l => l[0]?) hb
  simp only [List.getElem?_take, List.getElem?_drop] at h3
  rw [h2]
  simpa using h3

theorem tab_cells {H : Type} {enc : TypeId × Value → H} {W : World} {base : Nat} {sp : Nat → Bool} {held : Bool} {fuel : Nat} {cs : List Value} {ps : List MemPlace}
    (h : DataW.trod enc Ybad.prog W base sp held fuel 56 cs = some (tabD, ps)) : cs = tabCells.toList := by
  obtain ⟨xs, m, rfl, hx, hlen, hn, hel⟩ := DataW.trod_array Ybad.underlying56 h
  rw [cells56] at hlen
  have key : ∀ i j, i < 7 → j < 7 → cs[i * 7 + j]? = some (.bool (tabB i j)) := fun i j hi hj => by
    have hi' := hel i hi
    rw [cells55] at hi'
    obtain ⟨x, hxi⟩ : ∃ x, xs[i]? = some x := ⟨xs[i]'(by omega), List.getElem?_eq_getElem (by omega)⟩
    rw [hxi] at hi'
    simp only [tabD, Prod.mk.injEq, DataW.agg.injEq] at hx
    have h1 := congrArg (fun l => l[i]?) hx.1
    simp only [List.getElem?_map, hxi, Option.map_some, List.getElem?_range hi, Option.some.injEq] at h1
    obtain ⟨d, q⟩ := x
    simp only at h1
    subst h1
    have := row_cells hi hi' j hj
    rw [List.getElem?_take, if_pos hj, List.getElem?_drop] at this
    exact this
  apply List.ext_getElem?
  intro k
  by_cases hk : k < 49
  · have e : k = (k / 7) * 7 + k % 7 := by omega
    rw [e, key (k / 7) (k % 7) (by omega) (by omega)]
    have := tabCells_at (k / 7) (by omega) (k % 7) (by omega)
    simp only [tabCells, List.getElem?_map, this, Option.map_some]
  · rw [List.getElem?_eq_none (by omega), List.getElem?_eq_none]
    show (tabCells.toList).length ≤ k
    have : tabCells.toList.length = 49 := by decide
    omega

theorem var_of_laid {W : World} (h : laidMetH Ybad.prog Rows.lawS7829CWholeRow.laid W) : W.var? Ybad.prog tabName = some tabCells := by
  rw [MakeChecks.laidMetH_plain _ _ _ (by kernel_rfl)] at h
  obtain ⟨ps, ⟨g, t, cs, fuel, p, q, hg, ht, hvar, hd, _, _⟩, _⟩ := h
  obtain rfl := Option.some.inj (gTab.symm.trans hg)
  obtain rfl := Option.some.inj (tTab.symm.trans ht)
  refine (show W.var? Ybad.prog tabName = some cs from hvar).trans ?_
  have := tab_cells (show DataW.trod _ Ybad.prog W 0 _ _ fuel 56 cs.toList = some (tabD, p) from hd)
  congr 1
  exact Array.toList_inj.1 this

theorem glob_of_var {W : World} (h : W.var? Ybad.prog tabName = some tabCells) : Glob W := fun r g hr hg => by
  rw [World.var?_cell gTab h]
  have := tabCells_at r hr g hg
  simp only [tabCells, List.getElem?_toArray, List.getElem?_map, this, Option.map_some]

theorem reads_tab {H : Type} (enc : TypeId × Value → H) (W : World) (sp : Nat → Bool) : DataW.trod enc Ybad.prog W 0 sp true 4 56 tabCells.toList = some (tabD, []) := by kernel_rfl

theorem door_met (os : Os) (args : Array Value) : laidMetH Ybad.prog Rows.lawS7829CWholeRow.laid ((World.doorLaid Ybad.prog 400 os).forCall (fun _ _ => 0) ⟨#[], args, []⟩).memory :=
  laidMetH_of_parts3 (fuel := 8) (laidMet_of_run' 8 (by kernel_rfl) (by kernel_rfl)) (by kernel_rfl) (by kernel_rfl)
end Go.Proofs.YbulkffcqDoor
