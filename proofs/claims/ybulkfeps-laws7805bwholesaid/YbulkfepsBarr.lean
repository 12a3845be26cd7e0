import Derived.Test.YbulkfepsBsmall
import Derived.Laws.MakeOwn
namespace Go.Proofs.Ybulkfeps.lawS7805BWhole
open Go.ChangeShapes Go.WideShapes Go.ChangeAt Go.RowKit
set_option linter.unusedVariables false

/-- n cells by a function. -/
def arrOf (g : Nat → Value) (n : Nat) : Array Value := ((List.range n).map g).toArray

theorem arrOf_size (g : Nat → Value) (n : Nat) : (arrOf g n).size = n := by simp [arrOf]
theorem arrOf_at (g : Nat → Value) {n j : Nat} (h : j < n) : (arrOf g n)[j]? = some (g j) := by simp [arrOf, h]
theorem arrOf_set (g : Nat → Value) (n j : Nat) (v : Value) : (arrOf g n).setIfInBounds j v = arrOf (upd g j v) n := by
  apply Array.ext_getElem?
  intro i
  rw [Array.getElem?_setIfInBounds]
  by_cases hi : i < n
  · by_cases e : j = i
    · subst e
      rw [if_pos rfl, arrOf_size, if_pos hi, arrOf_at _ hi, upd_same]
    · rw [if_neg e, arrOf_at _ hi, arrOf_at _ hi, upd_other _ _ (Ne.symm e)]
  · have h1 : (arrOf (upd g j v) n)[i]? = none := by rw [Array.getElem?_eq_none]; rw [arrOf_size]; omega
    have h2 : (arrOf g n)[i]? = none := by rw [Array.getElem?_eq_none]; rw [arrOf_size]; omega
    rw [h1, h2, arrOf_size]
    split
    · rw [if_neg (by omega)]
    · rfl

theorem upd_map {α β : Type} (F : α → β) (f : Nat → α) (y : Nat) (v : α) : upd (fun x => F (f x)) y (F v) = fun x => F (upd f y v x) := by
  funext x
  unfold upd
  split <;> rfl

theorem made_arr (z : Value) (n : Nat) : madeCells #[z] n = arrOf (fun _ => z) n := by
  apply Array.ext_getElem?
  intro i
  by_cases hi : i < n
  · rw [arrOf_at _ hi]
    simp [madeCells, hi, Nat.mod_one]
  · rw [Array.getElem?_eq_none (by rw [size_madeCells]; omega), Array.getElem?_eq_none (by rw [arrOf_size]; omega)]

/-- A block of n cells by a function. -/
def Blk (w : World) (b : Nat) (e : TypeId) (n : Nat) (g : Nat → Value) : Prop := w.heap[b]? = some (.cells (arrOf g n) e (0, 0))

section
variable {w w' : World} {b n : Nat} {e : TypeId} {g : Nat → Value}
theorem Blk.cell (h : Blk w b e n g) {j : Nat} (hj : j < n) : w.cell? ⟨b, j, none⟩ = some (g j) := (cell_of_row w b j _ _ _ h).trans (arrOf_at g hj)
theorem Blk.frozen (h : Blk w b e n g) (j : Nat) : w.frozen? ⟨b, j, none⟩ = false := frozen_of_row w b j _ _ h
theorem Blk.lt (h : Blk w b e n g) : b < w.heap.size := lt_of_block h
theorem Blk.frame (h : Blk w b e n g) (hf : w'.heap[b]? = w.heap[b]?) : Blk w' b e n g := hf.trans h
theorem Blk.set (h : Blk w b e n g) (j : Nat) (v : Value) : Blk (w.setCell ⟨b, j, none⟩ v) b e n (upd g j v) := by
  have := heap_setCell_same w b j _ e v h
  rw [arrOf_set] at this
  exact this
theorem Blk.other (h : Blk w b e n g) {a : Addr} (hne : b ≠ a.block) (v : Value) : Blk (w.setCell a v) b e n g := (heap_setCell_other w a b v hne).trans h
theorem Blk.alloc (h : Blk w b e n g) (o : Obj) : Blk (w.alloc o) b e n g := (Below.heap_alloc w o b h.lt).trans h
theorem Blk.drew (h : Blk w b e n g) : Blk w.drew b e n g := h
theorem Blk.drewN (h : Blk w b e n g) (k : Nat) : Blk (w.drewN k) b e n g := h
theorem Blk.keep {B : Nat} {M : Nat → Prop} (h : Blk w b e n g) (hk : Keep B M w w') (hb : b < B) (hm : ¬ M b) : Blk w' b e n g := h.frame (hk.block hb hm)
theorem Blk.new (w : World) (e : TypeId) (n : Nat) (g : Nat → Value) : Blk (w.alloc (.cells (arrOf g n) e)) w.heap.size e n g := by
  show (w.heap.push _)[w.heap.size]? = _
  simp
theorem Blk.of_ext (h : Blk w b e n g) {g' : Nat → Value} (hg : ∀ j, j < n → g j = g' j) : Blk w b e n g' := by
  have : arrOf g n = arrOf g' n := by
    unfold arrOf
    congr 1
    apply List.map_congr_left
    intro j hj
    exact hg j (List.mem_range.1 hj)
  unfold Blk
  rw [← this]
  exact h
end

theorem mkBools (n : Nat) (hn : n ≤ 1000000) (W : World) : (Instr.makeSlice 43 (.int .i64 (n : Int)) (.int .i64 (n : Int))).run Yba.prog W = .ok (.slice (some ⟨W.heap.size, 0, none⟩) n n) (W.alloc (.cells (arrOf (fun _ => .bool false) n) 4)) := by
  obtain ⟨i, hi, hz0, hz1, hz2⟩ := info_parts (show (Yba.prog.info? 4).map (fun i => (i.zero, i.size, i.bytes)) = some (some (.bool false), 1, 1) by kernel_rfl)
  have := run_make (P := Yba.prog) W 43 4 i (.bool false) Yba.underlying43 hi hz0 .i64 .i64 (n : Int) (n : Int) (by omega) (Int.le_refl _) (by rw [hz2]; omega) (by omega)
  rw [hz1] at this
  rw [← made_arr]
  simpa [Value.cells] using this
theorem mkInts (n : Nat) (hn : n ≤ 1000000) (W : World) : (Instr.makeSlice 48 (.int .i64 (n : Int)) (.int .i64 (n : Int))).run Yba.prog W = .ok (.slice (some ⟨W.heap.size, 0, none⟩) n n) (W.alloc (.cells (arrOf (fun _ => .int .i64 0) n) 3)) := by
  obtain ⟨i, hi, hz0, hz1, hz2⟩ := info_parts info3
  have := run_make (P := Yba.prog) W 48 3 i (.int .i64 0) Yba.underlying48 hi hz0 .i64 .i64 (n : Int) (n : Int) (by omega) (Int.le_refl _) (by rw [hz2]; omega) (by omega)
  rw [hz1] at this
  rw [← made_arr]
  simpa [Value.cells] using this
theorem mkRows (n : Nat) (hn : n ≤ 1000000) (W : World) : (Instr.makeSlice 47 (.int .i64 (n : Int)) (.int .i64 (n : Int))).run Yba.prog W = .ok (.slice (some ⟨W.heap.size, 0, none⟩) n n) (W.alloc (.cells (arrOf (fun _ => .slice none 0 0) n) 48)) := by
  obtain ⟨i, hi, hz0, hz1, hz2⟩ := info_parts (show (Yba.prog.info? 48).map (fun i => (i.zero, i.size, i.bytes)) = some (some (.slice none 0 0), 1, 24) by kernel_rfl)
  have := run_make (P := Yba.prog) W 47 48 i (.slice none 0 0) Yba.underlying47 hi hz0 .i64 .i64 (n : Int) (n : Int) (by omega) (Int.le_refl _) (by rw [hz2]; omega) (by omega)
  rw [hz1] at this
  rw [← made_arr]
  simpa [Value.cells] using this
theorem mkAdj (n : Nat) (hn : n ≤ 1000000) (W : World) : (Instr.makeSlice 54 (.int .i64 (n : Int)) (.int .i64 (n : Int))).run Yba.prog W = .ok (.slice (some ⟨W.heap.size, 0, none⟩) n n) (W.alloc (.cells (arrOf (fun _ => .slice none 0 0) n) 64)) := by
  obtain ⟨i, hi, hz0, hz1, hz2⟩ := info_parts (show (Yba.prog.info? 64).map (fun i => (i.zero, i.size, i.bytes)) = some (some (.slice none 0 0), 1, 24) by kernel_rfl)
  have := run_make (P := Yba.prog) W 54 64 i (.slice none 0 0) Yba.underlying54 hi hz0 .i64 .i64 (n : Int) (n : Int) (by omega) (Int.le_refl _) (by rw [hz2]; omega) (by omega)
  rw [hz1] at this
  rw [← made_arr]
  simpa [Value.cells] using this
end Go.Proofs.Ybulkfeps.lawS7805BWhole
