import Derived.Test.YbulkffcqDoorYield
import Derived.LaidEqlPtr
namespace Go.Proofs.YbulkffcqDoor
open Go.RowKit Go.Shelf
set_option linter.unusedVariables false

/-! ### The plain side -/
def blkAt (own m : Nat) (md bf : Nat → Nat) (i : Nat) : Bool := decide (i ≠ own) && blkB m (md i) (bf i)
/-- Of the first k grants those that block. -/
def Lk (own m : Nat) (md bf : Nat → Nat) (k : Nat) : List Nat := (List.range k).filter (blkAt own m md bf)
theorem Lk_zero (own m : Nat) (md bf : Nat → Nat) : Lk own m md bf 0 = [] := rfl
theorem Lk_yes {own m : Nat} {md bf : Nat → Nat} {k : Nat} (h : blkAt own m md bf k = true) : Lk own m md bf (k + 1) = Lk own m md bf k ++ [k] := by
  simp [Lk, List.range_succ, List.filter_append, h]
theorem Lk_no {own m : Nat} {md bf : Nat → Nat} {k : Nat} (h : blkAt own m md bf k = false) : Lk own m md bf (k + 1) = Lk own m md bf k := by
  simp [Lk, List.range_succ, List.filter_append, h]
theorem Lk_len (own m : Nat) (md bf : Nat → Nat) (k : Nat) : (Lk own m md bf k).length ≤ k := by
  have := List.length_filter_le (blkAt own m md bf) (List.range k)
  simpa [Lk] using this
theorem Lk_mem {own m : Nat} {md bf : Nat → Nat} {k i : Nat} (h : i ∈ Lk own m md bf k) : i < k := by
  simp [Lk] at h; exact h.1

/-! ### What the blocks hold -/
/-- Below Bo, and but for Bp, W is as w was. -/
structure Upto (Bo Bp : Nat) (w W : World) : Prop where
  os : W.os = w.os
  tape : W.tape = w.tape
  output : W.output = w.output
  size : w.heap.size ≤ W.heap.size
  block : ∀ k, k < Bo → k ≠ Bp → W.heap[k]? = w.heap[k]?

theorem Upto.refl (Bo Bp : Nat) (w : World) : Upto Bo Bp w w := ⟨rfl, rfl, rfl, Nat.le_refl _, fun _ _ _ => rfl⟩
theorem Upto.below {Bo Bp : Nat} {w a b : World} (h : Upto Bo Bp w a) (k : Below Bo a b) : Upto Bo Bp w b :=
  ⟨k.os.trans h.os, k.tape.trans h.tape, k.output.trans h.output, Nat.le_trans h.size k.size, fun i hi hp => (k.block i hi).trans (h.block i hi hp)⟩
theorem Upto.setP {Bo Bp : Nat} {w a : World} (h : Upto Bo Bp w a) (o : Nat) (v : Value) : Upto Bo Bp w (a.setCell ⟨Bp, o, none⟩ v) :=
  ⟨h.os, h.tape, h.output, by simpa using h.size, fun i hi hp => (heap_setCell_other a ⟨Bp, o, none⟩ i v hp).trans (h.block i hi hp)⟩
theorem Upto.cell {Bo Bp : Nat} {w a : World} (h : Upto Bo Bp w a) {p : Addr} (hp : p.block < Bo) (hq : p.block ≠ Bp) : a.cell? p = w.cell? p := World.cell?_of_block (h.block _ hp hq)
theorem Upto.toBelow {Bo Bp n₀ : Nat} {w a : World} (h : Upto Bo Bp w a) (h1 : n₀ ≤ Bo) (h2 : n₀ ≤ Bp) : Below n₀ w a := ⟨h.os, h.tape, h.output, h.size, fun k hk => h.block k (by omega) (by omega)⟩

/-- The numbers of the blocks, and what they are told apart by. -/
structure Lay (Bo Bp Bs Bn Bg Gr N : Nat) (G : Nat → Nat) : Prop where
  p : Bp < Bo
  s : Bs < Bo ∧ Bs ≠ Bp
  n : Bn < Bo ∧ Bn ≠ Bp
  g : Bg < Bo ∧ Bg ≠ Bp
  r : Gr < Bo ∧ Gr ≠ Bp
  z : 0 < Bo ∧ 0 ≠ Bp
  gs : ∀ j, j < N → G j < Bo ∧ G j ≠ Bp
  inj : ∀ i j, i < N → j < N → i ≠ j → G i ≠ G j

/-- What stands while the search goes on. -/
structure Stat (Bs Bn Bg Gr N stop : Nat) (G : Nat → Nat) (ta : Nat → Addr) (md bf : Nat → Nat) (W : World) : Prop where
  n : W.cell? ⟨Bn, 0, none⟩ = some (.int .i64 (N : Int))
  st : W.cell? ⟨Bs, 0, none⟩ = some (.int .i64 (stop : Int))
  g : W.cell? ⟨Bg, 0, none⟩ = some (.slice (some ⟨Gr, 0, none⟩) N N)
  c : ∀ j, j < N → W.cell? ⟨Gr, j, none⟩ = some (.pointer (some ⟨G j, 0, none⟩))
  glob : Glob W
  gr : ∀ j, j < N → ∃ cs : Array Value, W.heap[G j]? = some (.cells cs 41 (0, 0)) ∧ cs[1]? = some (.pointer (some (ta j))) ∧ cs[5]? = some (.int .u8 (md j : Int)) ∧ cs[6]? = some (.int .u8 (bf j : Int))

theorem Stat.upto {Bo Bp Bs Bn Bg Gr N stop : Nat} {G : Nat → Nat} {ta : Nat → Addr} {md bf : Nat → Nat} {w W : World} (L : Lay Bo Bp Bs Bn Bg Gr N G) (h : Stat Bs Bn Bg Gr N stop G ta md bf w) (u : Upto Bo Bp w W) : Stat Bs Bn Bg Gr N stop G ta md bf W :=
  ⟨(u.cell L.n.1 L.n.2).trans h.n, (u.cell L.s.1 L.s.2).trans h.st, (u.cell L.g.1 L.g.2).trans h.g, fun j hj => (u.cell L.r.1 L.r.2).trans (h.c j hj),
   fun r g hr hg => (u.cell L.z.1 L.z.2).trans (h.glob r g hr hg), fun j hj => by rw [u.block _ (L.gs j hj).1 (L.gs j hj).2]; exact h.gr j hj⟩

theorem run_neq_ptr_other {P : Program} (w : World) {tp te : TypeId} {j : TypeInfo} {a b : Addr} {ca cb : Array Value} {ta tb : TypeId} (hp : P.underlying tp = some (.pointer te)) (hte : P.info? te = some j) (hsz : j.size ≠ 0)
    (hne : a ≠ b) (ha : w.heap[a.block]? = some (.cells ca ta (0, 0))) (hb : w.heap[b.block]? = some (.cells cb tb (0, 0))) :
    (binOp .neq tp (.pointer (some a)) (.pointer (some b))).run P w = .ok (.bool true) w := by
  have h : ∀ d : Nat, (Op.equalIn (d + 1) tp (.pointer (some a)) (.pointer (some b))).run P w = .ok false w := fun d => by
    simp [Op.equalIn, run_underlying hp, sizeOf, typeInfo, hte, hsz, run_sameAddr_other w hne ha hb]
  simp only [binOp]
  simp [Op.equal, Op.maxDepth, h 9999]
theorem run_neq_ptr_same {P : Program} (w : World) {tp te : TypeId} {j : TypeInfo} (a : Addr) (hp : P.underlying tp = some (.pointer te)) (hte : P.info? te = some j) :
    (binOp .neq tp (.pointer (some a)) (.pointer (some a))).run P w = .ok (.bool false) w := by
  have h : ∀ d : Nat, (Op.equalIn (d + 1) tp (.pointer (some a)) (.pointer (some a))).run P w = .ok true w := fun d => by
    simp [Op.equalIn, run_underlying hp, sizeOf, typeInfo, hte, run_sameAddr_same]
  simp only [binOp]
  simp [Op.equal, Op.maxDepth, h 9999]

theorem info41 : (Ybad.prog.info? 41).map (fun i => decide (i.size ≠ 0)) = some true := by kernel_rfl

/-- 'g != own' at the k-th grant. -/
theorem own_test {Bs Bn Bg Gr N stop : Nat} {G : Nat → Nat} {ta : Nat → Addr} {md bf : Nat → Nat} {W : World} (h : Stat Bs Bn Bg Gr N stop G ta md bf W) (hinj : ∀ i j, i < N → j < N → i ≠ j → G i ≠ G j) (own k : Nat) (hk : k < N) :
    (binOp .neq 36 (.pointer (some ⟨G k, 0, none⟩)) (.pointer (if own < N then some ⟨G own, 0, none⟩ else none))).run Ybad.prog W = .ok (.bool (decide (k ≠ own))) W := by
  obtain ⟨i, hi, hs⟩ := Option.map_eq_some_iff.1 info41
  have hs' : i.size ≠ 0 := of_decide_eq_true hs
  by_cases ho : own < N
  · rw [if_pos ho]
    by_cases e : k = own
    · subst e
      rw [run_neq_ptr_same W _ Ybad.underlying36 hi]; simp
    · obtain ⟨c1, h1, _⟩ := h.gr k hk
      obtain ⟨c2, h2, _⟩ := h.gr own ho
      rw [run_neq_ptr_other W Ybad.underlying36 hi hs' (fun e' => hinj k own hk ho e (congrArg Addr.block e')) h1 h2]; simp [e]
  · rw [if_neg ho, run_neq_pointer_nil W 36 _ (by kernel_rfl)]
    have : k ≠ own := by omega
    simp [this]
end Go.Proofs.YbulkffcqDoor
