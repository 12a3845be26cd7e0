import Derived.Test.YbulkffcqDoorIter
import Derived.RangeFuncBox
namespace Go.Proofs.YbulkffcqDoor
open Go.RowKit Go.Shelf
set_option linter.unusedVariables false

theorem info26 : (Ybad.prog.info? 26).map (fun i => (i.zero, i.size, i.bytes)) = some (some (.pointer none), 1, 8) := by kernel_rfl

def ptrs (L : List Addr) : List Value := L.map (fun a => .pointer (some a))
/-- What the consumer says: go on? -/
def goOn (stop len : Nat) : Bool := decide (stop = 0) || decide (len < stop)

/-- 'out' in its box: a slice that owns the pointers L. -/
def OutIs (W : World) (Bo : Nat) (L : List Addr) : Prop := ∃ v, Boxed W Bo 24 v ∧ W.ownsRow Bo 26 1 v L.length (ptrs L)

/-- What a call of the consumer keeps. -/
structure Kept (Bo : Nat) (W W' : World) : Prop where
  others : KeepsOthers W W'
  below : Below Bo W W'
  box : ∀ B t u, B ≠ Bo → t ≠ 26 → Boxed W B t u → Boxed W' B t u

theorem yield_facts {W w1 : World} {Bo Bs stop g' cap' : Nat} {L : List Addr} {x : Addr} {v : Value} {tmp : Obj} (hv : Boxed W Bo 24 v) (hrow : W.ownsRow Bo 26 1 v L.length (ptrs L)) (hs : W.cell? ⟨Bs, 0, none⟩ = some (.int .i64 (stop : Int))) (hbs : Bs < Bo)
    (hown' : w1.ownsRow Bo 26 1 (.slice (some ⟨g', 0, none⟩) (L.length + 1) cap') (L.length + 1) (ptrs L ++ [.pointer (some x)])) (hgrow : (W.alloc tmp).grownBy w1 v.ownBlock) :
    w1.cell? ⟨Bo, 0, none⟩ = some v ∧ w1.frozen? ⟨Bo, 0, none⟩ = false ∧ (w1.setCell ⟨Bo, 0, none⟩ (.slice (some ⟨g', 0, none⟩) (L.length + 1) cap')).cell? ⟨Bo, 0, none⟩ = some (.slice (some ⟨g', 0, none⟩) (L.length + 1) cap') ∧
    (w1.setCell ⟨Bo, 0, none⟩ (.slice (some ⟨g', 0, none⟩) (L.length + 1) cap')).cell? ⟨Bs, 0, none⟩ = some (.int .i64 (stop : Int)) ∧
    Hid (OutIs (w1.setCell ⟨Bo, 0, none⟩ (.slice (some ⟨g', 0, none⟩) (L.length + 1) cap')) Bo (L ++ [x])) ∧ Hid (Kept Bo W (w1.setCell ⟨Bo, 0, none⟩ (.slice (some ⟨g', 0, none⟩) (L.length + 1) cap'))) := by
  obtain ⟨hv1, hv2, hr2, hk2, hb2⟩ := hv.appended (by decide) hrow (Nat.le_of_lt hv.lt) (Nat.le_refl _) hown' hgrow
  have hbox : ∀ B t u, B ≠ Bo → t ≠ 26 → Boxed W B t u → Boxed (w1.setCell ⟨Bo, 0, none⟩ (.slice (some ⟨g', 0, none⟩) (L.length + 1) cap')) B t u := fun B t u hne ht hb =>
    (((hb.alloc _).kept hgrow (hb.not_row ht hrow))).kept (grownBy_setCell' w1 Bo _) (by simpa using hne)
  exact ⟨hv1.cell, hv1.frozen, hv2.cell, (hb2.cell (p := ⟨Bs, 0, none⟩) hbs).trans hs, ⟨_, hv2, by simpa [ptrs] using hr2⟩, ⟨hk2, hb2, hbox⟩⟩

set_option maxHeartbeats 1000000 in
set_option maxRecDepth 100000 in
theorem yield_any (x : Addr) (Bo Bs stop : Nat) (hstop : stop ≤ 65537) (L : List Addr) (hL : L.length ≤ 65536) (W : World) (ho : OutIs W Bo L) (hs : W.cell? ⟨Bs, 0, none⟩ = some (.int .i64 (stop : Int))) (hbs : Bs < Bo) :
    Calls Ybad.prog 6 #[.pointer (some x), .pointer (some ⟨Bo, 0, none⟩), .pointer (some ⟨Bs, 0, none⟩)] W fun e W' => e = .returned (.bool (goOn stop (L.length + 1))) ∧ OutIs W' Bo (L ++ [x]) ∧ Kept Bo W W' := by
  obtain ⟨v, hv, hrow⟩ := ho
  obtain ⟨i0, hi, hz0, hz1, hz2⟩ := info_parts info26
  have HI : Hid (Ybad.prog.info? 26 = some i0) := hi
  have HI0 : Hid (i0.zero = some (.pointer none)) := hz0
  have HI1 : Hid (i0.size = 1) := hz1
  have HI2 : Hid (i0.bytes = 8) := hz2
  clear hi hz0 hz1 hz2
  have hc := hv.cell
  have hBo : Bo < W.heap.size := hv.lt
  have HV : Hid (Boxed W Bo 24 v) := hv
  have HR : Hid (W.ownsRow Bo 26 1 v L.length (ptrs L)) := hrow
  clear hv hrow
  by_cases h0 : stop = 0
  · have hg : goOn stop (L.length + 1) = true := by simp [goOn, h0]
    have HG : Hid (goOn stop (L.length + 1) = true) := hg
    clear hg
    subst h0
    go_enter Ybad.func6, Ybad.ntmps6
    go_wp2_with (at_builtin; refine wpList_append_own _ rfl (.tmp 5) (.tmp 7) 24 rfl Bo 26 i0 (.pointer none) 1 8 Ybad.underlying24 HI.out HI0.out HI1.out HI2.out rfl (by decide) _ _ _ rfl (HR.out.alloc _) ⟨W.heap.size, 0, none⟩ 1 1 [.pointer (some x)] rfl rfl (cell_one_new _ _ _) (by simp [Value.oneCell']) (by unfold maxLen; omega) (by omega) (by simp; omega) ?_; intro v' w1 hown' hgrow _; obtain ⟨g', cap', rfl⟩ := ownsRow_succ hown'; obtain ⟨hc1, hf1, hc2, hs2, HO, HK⟩ := yield_facts HV.out HR.out hs hbs hown' hgrow; clear hown' hgrow)
    go_ret
    exact ⟨ret_bool HG.out.symm, HO.out, HK.out⟩
  · have hg : goOn stop (L.length + 1) = decide (((L.length : Int) + 1) < (stop : Int)) := by
      rw [goOn, decide_eq_false h0, Bool.false_or, decide_eq_decide]; omega
    have HG : Hid (goOn stop (L.length + 1) = decide (((L.length : Int) + 1) < (stop : Int))) := hg
    have hz : ((stop : Int) == 0) = false := by simp; omega
    clear hg
    go_enter Ybad.func6, Ybad.ntmps6
    go_wp2_with (at_builtin; refine wpList_append_own _ rfl (.tmp 5) (.tmp 7) 24 rfl Bo 26 i0 (.pointer none) 1 8 Ybad.underlying24 HI.out HI0.out HI1.out HI2.out rfl (by decide) _ _ _ rfl (HR.out.alloc _) ⟨W.heap.size, 0, none⟩ 1 1 [.pointer (some x)] rfl rfl (cell_one_new _ _ _) (by simp [Value.oneCell']) (by unfold maxLen; omega) (by omega) (by simp; omega) ?_; intro v' w1 hown' hgrow _; obtain ⟨g', cap', rfl⟩ := ownsRow_succ hown'; obtain ⟨hc1, hf1, hc2, hs2, HO, HK⟩ := yield_facts HV.out HR.out hs hbs hown' hgrow; clear hown' hgrow)
    go_ret
    exact ⟨ret_bool HG.out.symm, HO.out, HK.out⟩
end Go.Proofs.YbulkffcqDoor
