import Derived.Test.YbulkffcqZero
import Derived.Test.YbulkffcqLocks
import Derived.WalkKit
import Derived.ProofKit
import Derived.Below
import Derived.Deep.Light
import Derived.WalkSpells
import Derived.WalkSmall
namespace Go.Proofs.Ybulkffcq
open Go.ChangeShapes Go.WideShapes Go.ChangeAt Go.RowKit
set_option linter.unusedVariables false

/-- What is known of the zero value of the lock table. -/
structure ZeroTab (z : Array Value) : Prop where
  size : z.size = 37755
  run : ∀ w : World, (zeroValue 62).run Yba.prog w = .ok (.agg z) w
  mu : ∀ i, i < 256 → z[1 + i * 144]? = some (.int .i32 0)
  gr : ∀ i, i < 256 → z[1 + i * 144 + 6]? = some (.int .i64 0)
  pl : ∀ i, i < 256 → z[1 + i * 144 + 15]? = some (.int .i64 0)
  wt : z[37633]? = some (.int .i32 0)

theorem zeroTab : ∃ z, ZeroTab z := by
  obtain ⟨i, hi, hz⟩ := Option.map_eq_some_iff.1 zero62
  match hv : i.zero, hz with
  | some (.agg z), hz =>
    simp only [okZero, Bool.and_eq_true] at hz
    obtain ⟨h1, h2, h3⟩ := hz
    have hl : z.toList.length = 37755 := Nat.eq_of_beq_eq_true h1
    have hs : z.size = 37755 := by simpa using hl
    have cellAt : ∀ j, j < 36864 → ∃ c, z[1 + j]? = some c ∧ okAt c (j % 144) = true := fun j hj => by
      have hlt : 1 + j < z.size := by omega
      refine ⟨z[1 + j], by rw [Array.getElem?_eq_getElem hlt], ?_⟩
      have := okCells_at _ 0 h2 j z[1 + j] (by
        rw [List.getElem?_take, if_pos hj, List.getElem?_drop, Array.getElem?_toList, Array.getElem?_eq_getElem hlt])
      simpa using this
    refine ⟨z, hs, fun w => by simp [zeroValue, typeInfo, hi, hv], fun i hi' => ?_, fun i hi' => ?_, fun i hi' => ?_, ?_⟩
    · obtain ⟨c, hc, ho⟩ := cellAt (i * 144) (by omega)
      rw [show i * 144 % 144 = 0 from by omega] at ho
      rw [hc, isI32z_eq (v := c) (by simpa [okAt] using ho)]
    · obtain ⟨c, hc, ho⟩ := cellAt (i * 144 + 6) (by omega)
      rw [show (i * 144 + 6) % 144 = 6 from by omega] at ho
      rw [Nat.add_assoc, hc, isI64z_eq (v := c) (by simpa [okAt] using ho)]
    · obtain ⟨c, hc, ho⟩ := cellAt (i * 144 + 15) (by omega)
      rw [show (i * 144 + 15) % 144 = 15 from by omega] at ho
      rw [Nat.add_assoc, hc, isI64z_eq (v := c) (by simpa [okAt] using ho)]
    · have hlt : 37633 < z.size := by omega
      have hd : z.toList.drop 37633 = z[37633] :: z.toList.drop 37634 := by
        rw [List.drop_eq_getElem_cons (by simpa using hlt)]; simp
      rw [hd] at h3
      rw [Array.getElem?_eq_getElem hlt, isI32z_eq h3]

theorem run_build62 {z : Array Value} (Z : ZeroTab z) (w : World) : (Instr.build 62 #[]).run Yba.prog w = .ok (.agg z) w := by
  simp [Instr.build, Z.run, Yba.runUnderlying62, Yba.sizeOf26, Yba.sizeOf48, Yba.sizeOf55, Yba.sizeOf45, Yba.sizeOf33, Yba.sizeOf59, Yba.sizeOf60, Instr.fill, Value.cells]

/-- The operation that builds it. -/
theorem wpList_build62 {z : Array Value} (Z : ZeroTab z) {ops : Array Oper} {rest : List Oper} {o : Oper} {a : Act} {w : World} {Q : Exit → Act → World → Prop} (hgd : o.guard = none) (ho : o.op = .build 62 #[])
    (h : wpList Yba.prog ops Q rest (a.put o.dst (.agg z)) w) : wpList Yba.prog ops Q (o :: rest) a w :=
  wpList_plain hgd fun K hK => by
    unfold Oper.wp execOp
    simp only [ho, Array.map_empty, run_build62 Z, Sem.run_bind, Result.andThen_ok]
    exact hK _ _ h

/-- The lock table in block B: the shards' mutexes m, counts g, places p; the waits mutex wt. -/
structure Tab (w : World) (B : Nat) (m g p : Nat → Int) (wt : Int) : Prop where
  mu : ∀ i, i < 256 → w.cell? ⟨B, 1 + i * 144, none⟩ = some (.int .i32 (m i))
  gr : ∀ i, i < 256 → w.cell? ⟨B, 1 + i * 144 + 6, none⟩ = some (.int .i64 (g i))
  pl : ∀ i, i < 256 → w.cell? ⟨B, 1 + i * 144 + 15, none⟩ = some (.int .i64 (p i))
  wt : w.cell? ⟨B, 37633, none⟩ = some (.int .i32 wt)
  fz : ∀ o, w.frozen? ⟨B, o, none⟩ = false

/-- x below k, y from there on. -/
def thr (k : Nat) (x y : Nat → Int) : Nat → Int := fun j => if j < k then x j else y j
theorem thr_zero (x y : Nat → Int) : thr 0 x y = y := by funext j; simp [thr]
theorem thr_at (k : Nat) (x y : Nat → Int) : thr k x y k = y k := by simp [thr]
theorem thr_lt {j k : Nat} (x y : Nat → Int) (h : j < k) : thr k x y j = x j := by simp [thr, h]

theorem Tab.congr {w : World} {B : Nat} {m g p m' g' p' : Nat → Int} {wt : Int} (h : Tab w B m g p wt) (hm : ∀ i, i < 256 → m i = m' i) (hg : ∀ i, i < 256 → g i = g' i) (hp : ∀ i, i < 256 → p i = p' i) : Tab w B m' g' p' wt :=
  ⟨fun i hi => by rw [h.mu i hi, hm i hi], fun i hi => by rw [h.gr i hi, hg i hi], fun i hi => by rw [h.pl i hi, hp i hi], h.wt, h.fz⟩

theorem other {w : World} {B o o' : Nat} {v : Value} (h : o ≠ o') : (w.setCell ⟨B, o, none⟩ v).cell? ⟨B, o', none⟩ = w.cell? ⟨B, o', none⟩ :=
  World.cell?_setCell_other w ⟨B, o, none⟩ ⟨B, o', none⟩ v (fun e => h (congrArg Addr.off e))

theorem Tab.setMu {w : World} {B : Nat} {m g p : Nat → Int} {wt : Int} (h : Tab w B m g p wt) {k : Nat} (hk : k < 256) (v : Int) : Tab (w.setCell ⟨B, 1 + k * 144, none⟩ (.int .i32 v)) B (fun j => if j = k then v else m j) g p wt := by
  refine ⟨fun i hi => ?_, fun i hi => ?_, fun i hi => ?_, ?_, fun o => by simpa using h.fz o⟩
  · by_cases e : i = k
    · subst e; rw [if_pos rfl]; exact World.cell?_setCell_same w _ _ (h.mu i hi)
    · rw [if_neg e, other (by omega)]; exact h.mu i hi
  · rw [other (by omega)]; exact h.gr i hi
  · rw [other (by omega)]; exact h.pl i hi
  · rw [other (by omega)]; exact h.wt

theorem Tab.setGr {w : World} {B : Nat} {m g p : Nat → Int} {wt : Int} (h : Tab w B m g p wt) {k : Nat} (hk : k < 256) (v : Int) : Tab (w.setCell ⟨B, 1 + k * 144 + 6, none⟩ (.int .i64 v)) B m (fun j => if j = k then v else g j) p wt := by
  refine ⟨fun i hi => ?_, fun i hi => ?_, fun i hi => ?_, ?_, fun o => by simpa using h.fz o⟩
  · rw [other (by omega)]; exact h.mu i hi
  · by_cases e : i = k
    · subst e; rw [if_pos rfl]; exact World.cell?_setCell_same w _ _ (h.gr i hi)
    · rw [if_neg e, other (by omega)]; exact h.gr i hi
  · rw [other (by omega)]; exact h.pl i hi
  · rw [other (by omega)]; exact h.wt

theorem Tab.setPl {w : World} {B : Nat} {m g p : Nat → Int} {wt : Int} (h : Tab w B m g p wt) {k : Nat} (hk : k < 256) (v : Int) : Tab (w.setCell ⟨B, 1 + k * 144 + 15, none⟩ (.int .i64 v)) B m g (fun j => if j = k then v else p j) wt := by
  refine ⟨fun i hi => ?_, fun i hi => ?_, fun i hi => ?_, ?_, fun o => by simpa using h.fz o⟩
  · rw [other (by omega)]; exact h.mu i hi
  · rw [other (by omega)]; exact h.gr i hi
  · by_cases e : i = k
    · subst e; rw [if_pos rfl]; exact World.cell?_setCell_same w _ _ (h.pl i hi)
    · rw [if_neg e, other (by omega)]; exact h.pl i hi
  · rw [other (by omega)]; exact h.wt

theorem Tab.setWt {w : World} {B : Nat} {m g p : Nat → Int} {wt : Int} (h : Tab w B m g p wt) (v : Int) : Tab (w.setCell ⟨B, 37633, none⟩ (.int .i32 v)) B m g p v :=
  ⟨fun i hi => by rw [other (by omega)]; exact h.mu i hi, fun i hi => by rw [other (by omega)]; exact h.gr i hi, fun i hi => by rw [other (by omega)]; exact h.pl i hi, World.cell?_setCell_same w _ _ h.wt, fun o => by simpa using h.fz o⟩

theorem Tab.drewN {w : World} {B : Nat} {m g p : Nat → Int} {wt : Int} (h : Tab w B m g p wt) (q : Nat) : Tab (w.drewN q) B m g p wt := ⟨h.mu, h.gr, h.pl, h.wt, h.fz⟩
theorem Tab.drew {w : World} {B : Nat} {m g p : Nat → Int} {wt : Int} (h : Tab w B m g p wt) : Tab w.drew B m g p wt := ⟨h.mu, h.gr, h.pl, h.wt, h.fz⟩

theorem Tab.made {z : Array Value} (Z : ZeroTab z) (w : World) : Tab (w.alloc (.cells z 62)) w.heap.size (fun _ => 0) (fun _ => 0) (fun _ => 0) 0 := by
  have h := heap_alloc_new w (.cells z 62)
  have hc : ∀ o, (w.alloc (.cells z 62)).cell? ⟨w.heap.size, o, none⟩ = z[o]? := fun o => cell_of_row _ _ _ _ _ _ h
  exact ⟨fun i hi => by rw [hc]; exact Z.mu i hi, fun i hi => by rw [hc]; exact Z.gr i hi, fun i hi => by rw [hc]; exact Z.pl i hi, by rw [hc]; exact Z.wt, fun o => frozen_of_row _ _ _ _ _ h⟩

theorem thr_step (k : Nat) (x y : Nat → Int) (i : Nat) : (if i = k then x k else thr k x y i) = thr (k + 1) x y i := by
  simp only [thr]
  by_cases e : i = k
  · subst e; simp
  · by_cases l : i < k
    · rw [if_neg e, if_pos l, if_pos (by omega)]
    · rw [if_neg e, if_neg l, if_neg (by omega)]
end Go.Proofs.Ybulkffcq
