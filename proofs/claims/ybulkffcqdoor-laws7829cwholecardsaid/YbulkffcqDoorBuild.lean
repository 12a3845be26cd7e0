import Derived.Test.YbulkffcqDoorBlock
import Derived.Deep.MidRow
import Derived.Laws.EntriesVeiled
import Derived.Deep.Cut
import Derived.Deep.CutRange
namespace Go.Proofs.YbulkffcqDoor
open Go.RowKit Go.Shelf
set_option linter.unusedVariables false

theorem info36 : (Ybad.prog.info? 36).map (fun i => (i.zero, i.size, i.bytes)) = some (some (.pointer none), 1, 8) := by kernel_rfl

/-- n nil pointers. -/
def nils (n : Nat) : Array Value := madeCells #[.pointer none] n
theorem mk24 (n : Nat) (hn : n ≤ 65536) (W : World) : (Instr.makeSlice 24 (.int .i64 (n : Int)) (.int .i64 (n : Int))).run Ybad.prog W = .ok (.slice (some ⟨W.heap.size, 0, none⟩) n n) (W.alloc (.cells (nils n) 26)) := by
  obtain ⟨i, hi, hz0, hz1, hz2⟩ := info_parts info26
  have := run_make (P := Ybad.prog) W 24 26 i (.pointer none) Ybad.underlying24 hi hz0 .i64 .i64 (n : Int) (n : Int) (by omega) (Int.le_refl _) (by rw [hz2]; omega) (by omega)
  rw [hz1] at this
  simpa [nils, Value.cells] using this
theorem mk25 (n : Nat) (hn : n ≤ 65536) (W : World) : (Instr.makeSlice 25 (.int .i64 (n : Int)) (.int .i64 (n : Int))).run Ybad.prog W = .ok (.slice (some ⟨W.heap.size, 0, none⟩) n n) (W.alloc (.cells (nils n) 36)) := by
  obtain ⟨i, hi, hz0, hz1, hz2⟩ := info_parts info36
  have := run_make (P := Ybad.prog) W 25 36 i (.pointer none) Ybad.underlying25 hi hz0 .i64 .i64 (n : Int) (n : Int) (by omega) (Int.le_refl _) (by rw [hz2]; omega) (by omega)
  rw [hz1] at this
  simpa [nils, Value.cells] using this

/-- The modes as numbers. -/
def nat8 (zs : List Int) (j : Nat) : Nat := (zs.getD j 0).toNat

/-- What has been built when k of n rounds are over. -/
structure Blt (B n : Nat) (md bf : Nat → Nat) (k : Nat) (W : World) : Prop where
  size : W.heap.size = B + 4 + 2 * k
  bn : Boxed W B 3 (.int .i64 (n : Int))
  bg : Boxed W (B + 1 + 1 + 1) 25 (.slice (some ⟨B + 1 + 1, 0, none⟩) n n)
  t1 : W.there (B + 1) 0 n
  t2 : W.there (B + 1 + 1) 0 n
  cx : ∀ j, j < k → W.cell? ⟨B + 1, j, none⟩ = some (.pointer (some ⟨B + 4 + 2 * j, 0, none⟩))
  cg : ∀ j, j < k → W.cell? ⟨B + 1 + 1, j, none⟩ = some (.pointer (some ⟨B + 4 + 2 * j + 1, 0, none⟩))
  gr : ∀ j, j < k → ∃ cs : Array Value, W.heap[B + 4 + 2 * j + 1]? = some (.cells cs 41 (0, 0)) ∧ cs[1]? = some (.pointer (some ⟨B + 4 + 2 * j, 0, none⟩)) ∧ cs[5]? = some (.int .u8 (md j : Int)) ∧ cs[6]? = some (.int .u8 (bf j : Int))

/-- befores[j], or NL. -/
def bfAt (bs : List Int) (n2 j : Nat) : Nat := if j < n2 then nat8 bs j else 0

def txc (k : Nat) : Array Value := #[.pointer none, .int .u64 (k : Int), .pointer none, .pointer none, .map none, .pointer none]
theorem there_of_made (w : World) (n e : Nat) : (w.alloc (.cells (nils n) e)).there w.heap.size 0 n := fun j hj => by
  have h := heap_alloc_new w (.cells (nils n) e)
  have hs : (nils n).size = n := size_madeCells _ _
  refine ⟨?_, frozen_of_row _ _ _ _ _ h⟩
  rw [cell_of_row _ _ _ _ _ _ h, Array.getElem?_eq_getElem (by omega)]
  rfl

theorem Blt.start (w : World) (n : Nat) (md bf : Nat → Nat) : Blt w.heap.size n md bf 0 ((((w.alloc (.cells #[.int .i64 (n : Int)] 3)).alloc (.cells (nils n) 26)).alloc (.cells (nils n) 36)).alloc (.cells #[.slice (some ⟨w.heap.size + 1 + 1, 0, none⟩) n n] 25)) := by
  have s1 : (w.alloc (.cells #[.int .i64 (n : Int)] 3)).heap.size = w.heap.size + 1 := World.size_alloc _ _
  have s2 : ((w.alloc (.cells #[.int .i64 (n : Int)] 3)).alloc (.cells (nils n) 26)).heap.size = w.heap.size + 1 + 1 := by rw [World.size_alloc, s1]
  have s3 : (((w.alloc (.cells #[.int .i64 (n : Int)] 3)).alloc (.cells (nils n) 26)).alloc (.cells (nils n) 36)).heap.size = w.heap.size + 1 + 1 + 1 := by rw [World.size_alloc, s2]
  refine ⟨by rw [World.size_alloc, s3], (((Boxed.new w 3 _).alloc _).alloc _).alloc _, ?_, ?_, ?_, fun j hj => absurd hj (Nat.not_lt_zero _), fun j hj => absurd hj (Nat.not_lt_zero _), fun j hj => absurd hj (Nat.not_lt_zero _)⟩
  · have := Boxed.new (((w.alloc (.cells #[.int .i64 (n : Int)] 3)).alloc (.cells (nils n) 26)).alloc (.cells (nils n) 36)) 25 (.slice (some ⟨w.heap.size + 1 + 1, 0, none⟩) n n)
    rwa [s3] at this
  · have := World.there_alloc (World.there_alloc (there_of_made (w.alloc (.cells #[.int .i64 (n : Int)] 3)) n 26) (.cells (nils n) 36)) (.cells #[.slice (some ⟨w.heap.size + 1 + 1, 0, none⟩) n n] 25)
    rwa [s1] at this
  · have := World.there_alloc (there_of_made ((w.alloc (.cells #[.int .i64 (n : Int)] 3)).alloc (.cells (nils n) 26)) n 36) (.cells #[.slice (some ⟨w.heap.size + 1 + 1, 0, none⟩) n n] 25)
    rwa [s2] at this

/-- In the midst of round k: the transaction is laid, the grant not yet. -/
structure Mid (B n : Nat) (md bf : Nat → Nat) (k : Nat) (W : World) : Prop where
  size : W.heap.size = B + 4 + 2 * k + 1
  bn : Boxed W B 3 (.int .i64 (n : Int))
  bg : Boxed W (B + 1 + 1 + 1) 25 (.slice (some ⟨B + 1 + 1, 0, none⟩) n n)
  t1 : W.there (B + 1) 0 n
  t2 : W.there (B + 1 + 1) 0 n
  cx : ∀ j, j < k + 1 → W.cell? ⟨B + 1, j, none⟩ = some (.pointer (some ⟨B + 4 + 2 * j, 0, none⟩))
  cg : ∀ j, j < k → W.cell? ⟨B + 1 + 1, j, none⟩ = some (.pointer (some ⟨B + 4 + 2 * j + 1, 0, none⟩))
  gr : ∀ j, j < k → ∃ cs : Array Value, W.heap[B + 4 + 2 * j + 1]? = some (.cells cs 41 (0, 0)) ∧ cs[1]? = some (.pointer (some ⟨B + 4 + 2 * j, 0, none⟩)) ∧ cs[5]? = some (.int .u8 (md j : Int)) ∧ cs[6]? = some (.int .u8 (bf j : Int))

theorem there_setCell {W : World} {b o n : Nat} (h : W.there b o n) (a : Addr) (v : Value) : (W.setCell a v).there b o n := fun j hj => by
  obtain ⟨h1, h2⟩ := h j hj
  obtain ⟨u, hu⟩ := Option.isSome_iff_exists.1 h1
  refine ⟨?_, by simpa using h2⟩
  by_cases e : a = ⟨b, o + j, none⟩
  · subst e; rw [World.cell?_setCell_same _ _ _ hu]; rfl
  · rw [World.cell?_setCell_other _ _ _ _ e, hu]; rfl

theorem Blt.mid {B n : Nat} {md bf : Nat → Nat} {k : Nat} {W : World} (h : Blt B n md bf k W) (hk : k < n) (X : Array Value) : Mid B n md bf k ((W.setCell ⟨B + 1, k, none⟩ (.pointer (some ⟨W.heap.size, 0, none⟩))).alloc (.cells X 34)) := by
  have hsz := h.size
  have blk : ∀ i, i < W.heap.size → i ≠ B + 1 → ((W.setCell ⟨B + 1, k, none⟩ (.pointer (some ⟨W.heap.size, 0, none⟩))).alloc (.cells X 34)).heap[i]? = W.heap[i]? := fun i hi hne => by
    rw [heap_alloc_old _ _ _ (by simpa using hi), heap_setCell_other _ _ _ _ hne]
  have cel : ∀ i o, i < W.heap.size → i ≠ B + 1 → ((W.setCell ⟨B + 1, k, none⟩ (.pointer (some ⟨W.heap.size, 0, none⟩))).alloc (.cells X 34)).cell? ⟨i, o, none⟩ = W.cell? ⟨i, o, none⟩ := fun i o hi hne => World.cell?_of_block (blk i hi hne)
  refine ⟨by rw [World.size_alloc]; simp [hsz], (blk B (by omega) (by omega)).trans h.bn, (blk _ (by omega) (by omega)).trans h.bg, World.there_alloc (there_setCell h.t1 _ _) _, World.there_alloc (there_setCell h.t2 _ _) _, fun j hj => ?_, fun j hj => ?_, fun j hj => ?_⟩
  · rw [World.cell?_alloc_lt _ _ _ (by simp; omega)]
    by_cases e : j = k
    · subst e
      obtain ⟨u, hu⟩ := Option.isSome_iff_exists.1 (h.t1 j hk).1
      rw [Nat.zero_add] at hu
      rw [World.cell?_setCell_same _ _ _ hu, hsz]
    · rw [World.cell?_setCell_other _ _ _ _ (fun e' => e (congrArg Addr.off e').symm)]
      exact h.cx j (by omega)
  · rw [cel _ _ (by omega) (by omega)]; exact h.cg j hj
  · rw [blk _ (by omega) (by omega)]; exact h.gr j hj

theorem Mid.next {B n : Nat} {md bf : Nat → Nat} {k : Nat} {W : World} (h : Mid B n md bf k W) (hk : k < n) (X : Array Value) (x1 : X[1]? = some (.pointer (some ⟨B + 4 + 2 * k, 0, none⟩))) (x5 : X[5]? = some (.int .u8 (md k : Int))) (x6 : X[6]? = some (.int .u8 (bf k : Int))) :
    Blt B n md bf (k + 1) ((W.setCell ⟨B + 1 + 1, k, none⟩ (.pointer (some ⟨W.heap.size, 0, none⟩))).alloc (.cells X 41)) := by
  have hsz := h.size
  have blk : ∀ i, i < W.heap.size → i ≠ B + 1 + 1 → ((W.setCell ⟨B + 1 + 1, k, none⟩ (.pointer (some ⟨W.heap.size, 0, none⟩))).alloc (.cells X 41)).heap[i]? = W.heap[i]? := fun i hi hne => by
    rw [heap_alloc_old _ _ _ (by simpa using hi), heap_setCell_other _ _ _ _ hne]
  have cel : ∀ i o, i < W.heap.size → i ≠ B + 1 + 1 → ((W.setCell ⟨B + 1 + 1, k, none⟩ (.pointer (some ⟨W.heap.size, 0, none⟩))).alloc (.cells X 41)).cell? ⟨i, o, none⟩ = W.cell? ⟨i, o, none⟩ := fun i o hi hne => World.cell?_of_block (blk i hi hne)
  refine ⟨by rw [World.size_alloc]; simp [hsz]; omega, (blk B (by omega) (by omega)).trans h.bn, (blk _ (by omega) (by omega)).trans h.bg, World.there_alloc (there_setCell h.t1 _ _) _, World.there_alloc (there_setCell h.t2 _ _) _, fun j hj => ?_, fun j hj => ?_, fun j hj => ?_⟩
  · rw [cel _ _ (by omega) (by omega)]; exact h.cx j hj
  · rw [World.cell?_alloc_lt _ _ _ (by simp; omega)]
    by_cases e : j = k
    · subst e
      obtain ⟨u, hu⟩ := Option.isSome_iff_exists.1 (h.t2 j hk).1
      rw [Nat.zero_add] at hu
      rw [World.cell?_setCell_same _ _ _ hu, hsz]
    · rw [World.cell?_setCell_other _ _ _ _ (fun e' => e (congrArg Addr.off e').symm)]
      exact h.cg j (by omega)
  · by_cases e : j = k
    · subst e
      refine ⟨X, ?_, x1, x5, x6⟩
      have := heap_alloc_new (W.setCell ⟨B + 1 + 1, j, none⟩ (.pointer (some ⟨W.heap.size, 0, none⟩))) (.cells X 41)
      rw [show (W.setCell ⟨B + 1 + 1, j, none⟩ (.pointer (some ⟨W.heap.size, 0, none⟩))).heap.size = B + 4 + 2 * j + 1 from by simp [hsz]] at this
      exact this
    · rw [blk _ (by omega) (by omega)]; exact h.gr j (by omega)

theorem Blt.drew {B n : Nat} {md bf : Nat → Nat} {k : Nat} {W : World} (h : Blt B n md bf k W) : Blt B n md bf k W.drew := ⟨h.size, h.bn, h.bg, h.t1, h.t2, h.cx, h.cg, h.gr⟩

/-- The search's parameters at this call. -/
def mkPar (B S n own m stop : Nat) (md bf : Nat → Nat) : Par :=
  { Bo := S + 1 + 1, Bp := S + 1, Bs := S, Bn := B, Bg := B + 1 + 1 + 1, Gr := B + 1 + 1, N := n, Bw := S + 1 + 1 + 1 + 1, Bm := S + 1 + 1 + 1 + 1 + 1, own := own, m := m, stop := stop, G := fun j => B + 4 + 2 * j + 1, ta := fun j => ⟨B + 4 + 2 * j, 0, none⟩, md := md, bf := bf }

/-- own, as the law picks it. -/
def owP (B n own : Nat) : Option Addr := if own < n then some ⟨B + 4 + 2 * own + 1, 0, none⟩ else none

theorem mkPar_ok {B S n own m stop : Nat} {md bf : Nat → Nat} (hB : 0 < B) (hS : S = B + 4 + 2 * n) (hn : n ≤ 65536) (hs : stop ≤ n + 1) (hm : m ≤ 255) (hmd : ∀ j, md j ≤ 255) (hbf : ∀ j, bf j ≤ 255) : (mkPar B S n own m stop md bf).Ok := by
  refine ⟨⟨?_, ?_, ?_, ?_, ?_, ?_, ?_, ?_⟩, hn, ?_, hm, hmd, hbf, ?_, ?_⟩ <;> simp only [mkPar] <;> try omega

/-- The six blocks laid ahead of the search. -/
def six (B S stop m : Nat) (q : Option Addr) (wr : World) : World :=
  (((((wr.alloc (.cells #[.int .i64 (stop : Int)] 3)).alloc (.cells #[.int .i64 0] 3)).alloc (.cells #[.slice none 0 0] 24)).alloc
    (.cells #[.func (.func 4) #[] #[.pointer (some ⟨B, 0, none⟩), .pointer (some ⟨S + 1, 0, none⟩), .pointer (some ⟨B + 1 + 1 + 1, 0, none⟩)]] 51)).alloc (.cells #[.pointer q] 36)).alloc (.cells #[.int .u8 (m : Int)] 35)

theorem hold_here {B n own m stop : Nat} {md bf : Nat → Nat} {wr : World} (hT : Blt B n md bf n wr) (hG : Glob wr) (hB : 0 < B) (hn : n ≤ 65536) (hs : stop ≤ n + 1) (hm : m ≤ 255) (hmd : ∀ j, md j ≤ 255) (hbf : ∀ j, bf j ≤ 255) :
    Calls Ybad.prog 8 #[.func (.func 6) #[] #[.pointer (some ⟨wr.heap.size + 1 + 1, 0, none⟩), .pointer (some ⟨wr.heap.size, 0, none⟩)], .pointer (some ⟨wr.heap.size + 1 + 1 + 1, 0, none⟩), .pointer (some ⟨wr.heap.size + 1 + 1 + 1 + 1, 0, none⟩), .pointer (some ⟨wr.heap.size + 1 + 1 + 1 + 1 + 1, 0, none⟩)]
      (six B wr.heap.size stop m (owP B n own) wr) fun e W' => e = .returned (.tuple #[]) ∧ After (mkPar B wr.heap.size n own m stop md bf) (six B wr.heap.size stop m (owP B n own) wr) W' := by
  have ok := mkPar_ok (B := B) (S := wr.heap.size) (own := own) hB hT.size hn hs hm hmd hbf
  have z1 := World.size_alloc wr (.cells #[.int .i64 (stop : Int)] 3)
  have z2 := World.size_alloc (wr.alloc (.cells #[.int .i64 (stop : Int)] 3)) (.cells #[.int .i64 0] 3)
  have z3 := World.size_alloc ((wr.alloc (.cells #[.int .i64 (stop : Int)] 3)).alloc (.cells #[.int .i64 0] 3)) (.cells #[.slice none 0 0] 24)
  have z4 := World.size_alloc (((wr.alloc (.cells #[.int .i64 (stop : Int)] 3)).alloc (.cells #[.int .i64 0] 3)).alloc (.cells #[.slice none 0 0] 24)) (.cells #[.func (.func 4) #[] #[.pointer (some ⟨B, 0, none⟩), .pointer (some ⟨wr.heap.size + 1, 0, none⟩), .pointer (some ⟨B + 1 + 1 + 1, 0, none⟩)]] 51)
  have z5 := World.size_alloc ((((wr.alloc (.cells #[.int .i64 (stop : Int)] 3)).alloc (.cells #[.int .i64 0] 3)).alloc (.cells #[.slice none 0 0] 24)).alloc (.cells #[.func (.func 4) #[] #[.pointer (some ⟨B, 0, none⟩), .pointer (some ⟨wr.heap.size + 1, 0, none⟩), .pointer (some ⟨B + 1 + 1 + 1, 0, none⟩)]] 51)) (.cells #[.pointer (owP B n own)] 36)
  rw [z1] at z2; rw [z2] at z3; rw [z3] at z4; rw [z4] at z5
  have bel : Below wr.heap.size wr (six B wr.heap.size stop m (owP B n own) wr) := by
    unfold six
    exact ((((((Below.refl _ _).alloc (Nat.le_refl _) _).alloc (by rw [z1]; omega) _).alloc (by rw [z2]; omega) _).alloc (by rw [z3]; omega) _).alloc (by rw [z4]; omega) _).alloc (by rw [z5]; omega) _
  have hsz := hT.size
  have blk : ∀ i, i < wr.heap.size → (six B wr.heap.size stop m (owP B n own) wr).heap[i]? = wr.heap[i]? := fun i hi => bel.block i hi
  have cel : ∀ i o, i < wr.heap.size → (six B wr.heap.size stop m (owP B n own) wr).cell? ⟨i, o, none⟩ = wr.cell? ⟨i, o, none⟩ := fun i o hi => World.cell?_of_block (blk i hi)
  have bs : Boxed (six B wr.heap.size stop m (owP B n own) wr) wr.heap.size 3 (.int .i64 (stop : Int)) := ((((((Boxed.new wr 3 _).alloc _).alloc _).alloc _).alloc _).alloc _)
  have bp : Boxed (six B wr.heap.size stop m (owP B n own) wr) (wr.heap.size + 1) 3 (.int .i64 0) := by
    have := ((((Boxed.new (wr.alloc (.cells #[.int .i64 (stop : Int)] 3)) 3 (.int .i64 0)).alloc (.cells #[.slice none 0 0] 24)).alloc (.cells #[.func (.func 4) #[] #[.pointer (some ⟨B, 0, none⟩), .pointer (some ⟨wr.heap.size + 1, 0, none⟩), .pointer (some ⟨B + 1 + 1 + 1, 0, none⟩)]] 51)).alloc (.cells #[.pointer (owP B n own)] 36)).alloc (.cells #[.int .u8 (m : Int)] 35)
    rw [z1] at this; exact this
  have bo : Boxed (six B wr.heap.size stop m (owP B n own) wr) (wr.heap.size + 1 + 1) 24 (.slice none 0 0) := by
    have := (((Boxed.new ((wr.alloc (.cells #[.int .i64 (stop : Int)] 3)).alloc (.cells #[.int .i64 0] 3)) 24 (.slice none 0 0)).alloc (.cells #[.func (.func 4) #[] #[.pointer (some ⟨B, 0, none⟩), .pointer (some ⟨wr.heap.size + 1, 0, none⟩), .pointer (some ⟨B + 1 + 1 + 1, 0, none⟩)]] 51)).alloc (.cells #[.pointer (owP B n own)] 36)).alloc (.cells #[.int .u8 (m : Int)] 35)
    rw [z2] at this; exact this
  have bh : Boxed (six B wr.heap.size stop m (owP B n own) wr) (wr.heap.size + 1 + 1 + 1) 51 (.func (.func 4) #[] #[.pointer (some ⟨B, 0, none⟩), .pointer (some ⟨wr.heap.size + 1, 0, none⟩), .pointer (some ⟨B + 1 + 1 + 1, 0, none⟩)]) := by
    have := ((Boxed.new (((wr.alloc (.cells #[.int .i64 (stop : Int)] 3)).alloc (.cells #[.int .i64 0] 3)).alloc (.cells #[.slice none 0 0] 24)) 51 (.func (.func 4) #[] #[.pointer (some ⟨B, 0, none⟩), .pointer (some ⟨wr.heap.size + 1, 0, none⟩), .pointer (some ⟨B + 1 + 1 + 1, 0, none⟩)])).alloc (.cells #[.pointer (owP B n own)] 36)).alloc (.cells #[.int .u8 (m : Int)] 35)
    rw [z3] at this; exact this
  have bw : Boxed (six B wr.heap.size stop m (owP B n own) wr) (wr.heap.size + 1 + 1 + 1 + 1) 36 (.pointer (owP B n own)) := by
    have := (Boxed.new ((((wr.alloc (.cells #[.int .i64 (stop : Int)] 3)).alloc (.cells #[.int .i64 0] 3)).alloc (.cells #[.slice none 0 0] 24)).alloc (.cells #[.func (.func 4) #[] #[.pointer (some ⟨B, 0, none⟩), .pointer (some ⟨wr.heap.size + 1, 0, none⟩), .pointer (some ⟨B + 1 + 1 + 1, 0, none⟩)]] 51)) 36 (.pointer (owP B n own))).alloc (.cells #[.int .u8 (m : Int)] 35)
    rw [z4] at this; exact this
  have bm : Boxed (six B wr.heap.size stop m (owP B n own) wr) (wr.heap.size + 1 + 1 + 1 + 1 + 1) 35 (.int .u8 (m : Int)) := by
    have := Boxed.new (((((wr.alloc (.cells #[.int .i64 (stop : Int)] 3)).alloc (.cells #[.int .i64 0] 3)).alloc (.cells #[.slice none 0 0] 24)).alloc (.cells #[.func (.func 4) #[] #[.pointer (some ⟨B, 0, none⟩), .pointer (some ⟨wr.heap.size + 1, 0, none⟩), .pointer (some ⟨B + 1 + 1 + 1, 0, none⟩)]] 51)).alloc (.cells #[.pointer (owP B n own)] 36)) 35 (.int .u8 (m : Int))
    rw [z5] at this; exact this
  refine hold_any (mkPar B wr.heap.size n own m stop md bf) ok (wr.heap.size + 1 + 1 + 1) _ ⟨?_, bs.cell, ?_, fun j hj => ?_, fun r g hr hg => ?_, fun j hj => ?_⟩ bp bh bw bm ⟨_, bo, World.ownsRow_nil _ _ _ _⟩
  · rw [show (mkPar B wr.heap.size n own m stop md bf).Bn = B from rfl, cel _ _ (by omega)]; exact hT.bn.cell
  · rw [show (mkPar B wr.heap.size n own m stop md bf).Bg = B + 1 + 1 + 1 from rfl, cel _ _ (by omega)]; exact hT.bg.cell
  · rw [show (mkPar B wr.heap.size n own m stop md bf).Gr = B + 1 + 1 from rfl, cel _ _ (by omega)]; exact hT.cg j hj
  · rw [cel _ _ (by omega)]; exact hG r g hr hg
  · show ∃ cs : Array Value, (six B wr.heap.size stop m (owP B n own) wr).heap[B + 4 + 2 * j + 1]? = _ ∧ _
    have hj' : j < n := hj
    rw [blk _ (by omega)]; exact hT.gr j hj

set_option maxHeartbeats 400000 in
theorem hb_any (f : Fn) (x y : Array Value) (q : Option Addr) (m : Int) (w : World) : Calls Ybad.prog 5 #[.func f x y, .pointer q, .int .u8 m] w fun e w' => e = .returned (.func (.func 8) #[] #[.pointer (some ⟨w.heap.size, 0, none⟩), .pointer (some ⟨w.heap.size + 1, 0, none⟩), .pointer (some ⟨w.heap.size + 1 + 1, 0, none⟩)]) ∧
    w' = ((w.alloc (.cells #[.func f x y] 51)).alloc (.cells #[.pointer q] 36)).alloc (.cells #[.int .u8 m] 35) := by
  go_enter Ybad.func5, Ybad.ntmps5
  go_wp2
  go_ret
  exact ⟨rfl, rfl⟩

/-! ### Behind the search -/
theorem Lk_mono (own m : Nat) (md bf : Nat → Nat) {j k : Nat} (h : j ≤ k) : (Lk own m md bf j).length ≤ (Lk own m md bf k).length := by
  induction k with
  | zero => obtain rfl : j = 0 := by omega
            exact Nat.le_refl _
  | succ k ih =>
    by_cases e : j = k + 1
    · subst e; exact Nat.le_refl _
    · refine Nat.le_trans (ih (by omega)) ?_
      cases hb : blkAt own m md bf k with
      | true => rw [Lk_yes hb]; simp
      | false => rw [Lk_no hb]; exact Nat.le_refl _

theorem goOn_true {stop len : Nat} : goOn stop len = true ↔ (stop = 0 ∨ len < stop) := by simp [goOn]
theorem goOn_false {stop len : Nat} : goOn stop len = false ↔ (stop ≠ 0 ∧ stop ≤ len) := by simp [goOn]

theorem Ends.unique {p : Par} {K K' : Nat} (h : Ends p K) (h' : Ends p K') : K = K' := by
  rcases h with ⟨rfl, h1⟩ | ⟨k, hk, rfl, h1, h2⟩
  · rcases h' with ⟨rfl, h3⟩ | ⟨k', hk', rfl, h3, h4⟩
    · rfl
    · have := Lk_mono p.own p.m p.md p.bf (show k' + 1 ≤ p.N by omega)
      rw [goOn_true] at h1; rw [goOn_false] at h4
      simp only [Par.L] at h1 h4
      omega
  · rcases h' with ⟨rfl, h3⟩ | ⟨k', hk', rfl, h3, h4⟩
    · have := Lk_mono p.own p.m p.md p.bf (show k + 1 ≤ p.N by omega)
      rw [goOn_true] at h3; rw [goOn_false] at h2
      simp only [Par.L] at h2 h3
      omega
    · rw [goOn_true] at h1 h3; rw [goOn_false] at h2 h4
      simp only [Par.L] at h1 h2 h3 h4
      rcases Nat.lt_trichotomy k k' with h | h | h
      · have := Lk_mono p.own p.m p.md p.bf (show k + 1 ≤ k' by omega); omega
      · omega
      · have := Lk_mono p.own p.m p.md p.bf (show k' + 1 ≤ k by omega); omega

/-- What the rest of the law reads. -/
structure Res (B S n stop K : Nat) (L : List Nat) (md bf : Nat → Nat) (W : World) : Prop where
  bn : W.cell? ⟨B, 0, none⟩ = some (.int .i64 (n : Int))
  st : W.cell? ⟨S, 0, none⟩ = some (.int .i64 (stop : Int))
  pl : W.cell? ⟨S + 1, 0, none⟩ = some (.int .i64 (K : Int))
  bg : W.cell? ⟨B + 1 + 1 + 1, 0, none⟩ = some (.slice (some ⟨B + 1 + 1, 0, none⟩) n n)
  cx : ∀ j, j < n → W.cell? ⟨B + 1, j, none⟩ = some (.pointer (some ⟨B + 4 + 2 * j, 0, none⟩))
  cg : ∀ j, j < n → W.cell? ⟨B + 1 + 1, j, none⟩ = some (.pointer (some ⟨B + 4 + 2 * j + 1, 0, none⟩))
  g1 : ∀ j, j < n → W.cell? ⟨B + 4 + 2 * j + 1, 1, none⟩ = some (.pointer (some ⟨B + 4 + 2 * j, 0, none⟩))
  g5 : ∀ j, j < n → W.cell? ⟨B + 4 + 2 * j + 1, 5, none⟩ = some (.int .u8 (md j : Int))
  g6 : ∀ j, j < n → W.cell? ⟨B + 4 + 2 * j + 1, 6, none⟩ = some (.int .u8 (bf j : Int))
  out : ∃ a cap, W.cell? ⟨S + 1 + 1, 0, none⟩ = some (.slice a L.length cap) ∧ ∀ j, j < L.length → ∃ g, a = some ⟨g, 0, none⟩ ∧ W.cell? ⟨g, j, none⟩ = some (.pointer (some ⟨B + 4 + 2 * (L.getD j 0), 0, none⟩))

theorem Res.later {B S n stop K : Nat} {L : List Nat} {md bf : Nat → Nat} {W W' : World} (h : Res B S n stop K L md bf W) (hb : Below W.heap.size W W') : Res B S n stop K L md bf W' := by
  have c : ∀ {p : Addr} {v : Value}, W.cell? p = some v → W'.cell? p = some v := fun hp => cell_later hb hp
  refine ⟨c h.bn, c h.st, c h.pl, c h.bg, fun j hj => c (h.cx j hj), fun j hj => c (h.cg j hj), fun j hj => c (h.g1 j hj), fun j hj => c (h.g5 j hj), fun j hj => c (h.g6 j hj), ?_⟩
  obtain ⟨a, cap, h1, h2⟩ := h.out
  exact ⟨a, cap, c h1, fun j hj => by obtain ⟨g, e, hg⟩ := h2 j hj; exact ⟨g, e, c hg⟩⟩

theorem res_of {B n own m stop : Nat} {md bf : Nat → Nat} {w wr W : World} (hT : Blt B n md bf n wr) (hB : Below B w wr) (h : After (mkPar B wr.heap.size n own m stop md bf) (six B wr.heap.size stop m (owP B n own) wr) W) :
    ∃ K, Ends (mkPar B wr.heap.size n own m stop md bf) K ∧ Res B wr.heap.size n stop K (Lk own m md bf K) md bf W ∧ Below B w W := by
  obtain ⟨⟨K, hK, hbp, hout⟩, hu⟩ := h
  have bel : Below wr.heap.size wr (six B wr.heap.size stop m (owP B n own) wr) := by
    unfold six
    exact ((((((Below.refl _ _).alloc (Nat.le_refl _) _).alloc (by simp) _).alloc (by simp; omega) _).alloc (by simp; omega) _).alloc (by simp; omega) _).alloc (by simp; omega) _
  have hsz := hT.size
  have blk : ∀ i, i < wr.heap.size → W.heap[i]? = wr.heap[i]? := fun i hi => (hu.block i (by show i < wr.heap.size + 1 + 1; omega) (by show i ≠ wr.heap.size + 1; omega)).trans (bel.block i hi)
  have cel : ∀ i o, i < wr.heap.size → W.cell? ⟨i, o, none⟩ = wr.cell? ⟨i, o, none⟩ := fun i o hi => World.cell?_of_block (blk i hi)
  have bs : Boxed (six B wr.heap.size stop m (owP B n own) wr) wr.heap.size 3 (.int .i64 (stop : Int)) := ((((((Boxed.new wr 3 _).alloc _).alloc _).alloc _).alloc _).alloc _)
  refine ⟨K, hK, ⟨?_, ?_, hbp.cell, ?_, fun j hj => ?_, fun j hj => ?_, fun j hj => ?_, fun j hj => ?_, fun j hj => ?_, ?_⟩, ?_⟩
  · rw [cel _ _ (by omega)]; exact hT.bn.cell
  · have : Boxed W wr.heap.size 3 (.int .i64 (stop : Int)) := (hu.block wr.heap.size (by show wr.heap.size < wr.heap.size + 1 + 1; omega) (by show wr.heap.size ≠ wr.heap.size + 1; omega)).trans bs
    exact this.cell
  · rw [cel _ _ (by omega)]; exact hT.bg.cell
  · rw [cel _ _ (by omega)]; exact hT.cx j hj
  · rw [cel _ _ (by omega)]; exact hT.cg j hj
  · obtain ⟨cs, h0, h1, _, _⟩ := hT.gr j hj
    rw [cel _ _ (by omega), cell_of_row _ _ _ _ _ _ h0]; exact h1
  · obtain ⟨cs, h0, _, h1, _⟩ := hT.gr j hj
    rw [cel _ _ (by omega), cell_of_row _ _ _ _ _ _ h0]; exact h1
  · obtain ⟨cs, h0, _, _, h1⟩ := hT.gr j hj
    rw [cel _ _ (by omega), cell_of_row _ _ _ _ _ _ h0]; exact h1
  · obtain ⟨v, hv, hrow⟩ := hout
    have hlen : ((Lk own m md bf K).map (fun j => (⟨B + 4 + 2 * j, 0, none⟩ : Addr))).length = (Lk own m md bf K).length := by simp
    have hrow' : W.ownsRow (wr.heap.size + 1 + 1) 26 1 v (Lk own m md bf K).length (ptrs ((Lk own m md bf K).map (fun j => (⟨B + 4 + 2 * j, 0, none⟩ : Addr)))) := by
      have := hrow
      rw [show (((mkPar B wr.heap.size n own m stop md bf).L K).map (mkPar B wr.heap.size n own m stop md bf).ta).length = (Lk own m md bf K).length from hlen] at this
      exact this
    rcases hrow'.2 with ⟨rfl, h0⟩ | ⟨g, cap, cur, rfl, _⟩
    · exact ⟨none, 0, by rw [h0]; exact hv.cell, fun j hj => by omega⟩
    · refine ⟨some ⟨g, 0, none⟩, cap, hv.cell, fun j hj => ⟨g, rfl, ?_⟩⟩
      rw [hrow'.cellAt j (by omega)]
      simp [ptrs, List.getD, hj]
  · exact hB.trans ((bel.mono (by omega)).trans (hu.toBelow (by show B ≤ wr.heap.size + 1 + 1; omega) (by show B ≤ wr.heap.size + 1; omega)))
end Go.Proofs.YbulkffcqDoor
