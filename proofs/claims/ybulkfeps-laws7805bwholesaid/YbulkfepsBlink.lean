import Derived.Test.YbulkfepsBpi
namespace Go.Proofs.Ybulkfeps.lawS7805BWhole
open Go.ChangeShapes Go.WideShapes Go.ChangeAt Go.RowKit
set_option linter.unusedVariables false

theorem owns_set {w : World} {base : Nat} {e : TypeId} {size n g cap : Nat} {xs : List Value} (h : w.ownsRow base e size (.slice (some ⟨g, 0, none⟩) n cap) n xs) (j : Nat) (u : Value) :
    (w.setCell ⟨g, j, none⟩ u).ownsRow base e size (.slice (some ⟨g, 0, none⟩) n cap) n (xs.set j u) := by
  refine ⟨by rw [List.length_set]; exact h.1, ?_⟩
  rcases h.2 with ⟨q, _⟩ | ⟨g', cap', cur, q, hb, hg, h1, h2, h3, h4⟩
  · cases q
  · cases q
    refine .inr ⟨g, cap, cur.setIfInBounds j u, rfl, hb, heap_setCell_same w g j cur e u hg, h1, h2, by rw [Array.size_setIfInBounds]; exact h3, ?_⟩
    rw [Array.toList_setIfInBounds, List.take_set, h4]

theorem owns_frozen {w : World} {base : Nat} {e : TypeId} {size n g cap : Nat} {xs : List Value} (h : w.ownsRow base e size (.slice (some ⟨g, 0, none⟩) n cap) n xs) (j : Nat) : w.frozen? ⟨g, j, none⟩ = false := by
  rcases h.2 with ⟨q, _⟩ | ⟨g', cap', cur, q, hb, hg, _⟩
  · cases q
  · cases q
    exact frozen_of_row w g j cur e hg

theorem linkCells_set : ∀ (L : List (Nat × Int)) (k b : Nat) (m : Int), linkCells (L.set k (b, m)) = ((linkCells L).set (k * 2) (.int .i32 (b : Int))).set (k * 2 + 1) (.int .i32 m)
  | [], k, b, m => by simp [linkCells]
  | p :: L, 0, b, m => by simp [linkCells]
  | p :: L, k + 1, b, m => by
    have := linkCells_set L k b m
    rw [show (k + 1) * 2 = k * 2 + 1 + 1 by omega]
    simp only [List.set_cons_succ, linkCells, this]

theorem linkCells_set_n : ∀ (L : List (Nat × Int)) (k b : Nat) (m m' : Int), L[k]? = some (b, m) → linkCells (L.set k (b, m')) = (linkCells L).set (k * 2 + 1) (.int .i32 m')
  | [], k, b, m, m', h => by simp at h
  | p :: L, 0, b, m, m', h => by
    simp at h
    subst h
    simp [linkCells]
  | p :: L, k + 1, b, m, m', h => by
    have := linkCells_set_n L k b m m' (by simpa using h)
    rw [show (k + 1) * 2 = k * 2 + 1 + 1 by omega]
    simp only [List.set_cons_succ, linkCells, this]

theorem linkCells_take : ∀ (L : List (Nat × Int)) (m : Nat), linkCells (L.take m) = (linkCells L).take (m * 2)
  | [], m => by simp [linkCells]
  | p :: L, 0 => by simp [linkCells]
  | p :: L, m + 1 => by
    rw [show (m + 1) * 2 = m * 2 + 1 + 1 by omega]
    simp only [List.take_succ_cons, linkCells, linkCells_take L m]

theorem info66 : (Yba.prog.info? 66).map (fun i => (i.zero, i.size, i.bytes)) = some (some (.agg #[.int .i32 0, .int .i32 0]), 2, 8) := by kernel_rfl

/-- One link appended, in the world where the one-element slice lies. -/
theorem push_link (w : World) (base : Nat) (v : Value) (L : List (Nat × Int)) (b : Nat) (d : Int) (hown : w.ownsRow base 66 2 v L.length (linkCells L)) (hn : L.length ≤ 1000000) (hb : base ≤ w.heap.size) :
    ∃ g' cap' w', (Builtin.append_ #[64, 64] 64 #[v, .slice (some ⟨w.heap.size, 0, none⟩) 1 1]).run Yba.prog (w.alloc (.cells #[.int .i32 (b : Int), .int .i32 d] 66)) = .ok (.slice (some ⟨g', 0, none⟩) (L.length + 1) cap') w' ∧
      w'.ownsRow base 66 2 (.slice (some ⟨g', 0, none⟩) (L.length + 1) cap') (L ++ [(b, d)]).length (linkCells (L ++ [(b, d)])) ∧ Keep w.heap.size (fun k => v.ownBlock = some k) w w' ∧ (v.ownBlock = some g' ∨ w.heap.size ≤ g') := by
  obtain ⟨i0, hi, hz0, hz1, hz2⟩ := info_parts info66
  obtain ⟨v', w', hr, h1, h2, h3⟩ := run_append_tell (P := Yba.prog) (w.alloc (.cells #[.int .i32 (b : Int), .int .i32 d] 66)) base 64 64 66 i0 (.agg #[.int .i32 0, .int .i32 0]) 2 8 Yba.underlying64 hi hz0 hz1 hz2 rfl (by decide) v L.length (linkCells L) (hown.alloc _)
    ⟨w.heap.size, 0, none⟩ 1 1 [.int .i32 (b : Int), .int .i32 d] rfl (fun j u hu => by
      match j, hu with
      | 0, hu => cases hu; rw [Addr.add_lit, cell_of_row _ _ _ _ _ _ (heap_alloc_new w _)]; rfl
      | 1, hu => cases hu; rw [Addr.add_lit, cell_of_row _ _ _ _ _ _ (heap_alloc_new w _)]; rfl
      | j + 2, hu => simp at hu) (by simp [Value.oneCell']) (by unfold maxLen; omega) (by omega) (by show base ≤ (w.heap.push _).size; simp; omega)
  obtain ⟨g', cap', rfl, _⟩ := owns_some h1 (by omega)
  refine ⟨g', cap', w', hr, ?_, ?_, ?_⟩
  · rw [linkCells_append, List.length_append]
    exact h1
  · have k1 : Keep w.heap.size (fun k => v.ownBlock = some k) w (w.alloc (.cells #[.int .i32 (b : Int), .int .i32 d] 66)) := (Keep.refl _ _ _).alloc (Nat.le_refl _) _
    exact k1.grown h2 (by show w.heap.size ≤ (w.heap.push _).size; simp) (fun k hk => .inr hk)
  · rcases h3 g' rfl with h | h
    · exact .inl h
    · exact .inr (by have h : (w.heap.push _).size ≤ g' := h; simp at h; omega)

theorem sliceTo (g n m cap : Nat) (h : m ≤ cap) (W : World) : (Instr.slice 64 (.slice (some ⟨g, 0, none⟩) n cap) none (some (.int .i64 (m : Int))) none).run Yba.prog W = .ok (.slice (some ⟨g, 0, none⟩) m cap) W := by
  simp [Instr.slice, Instr.sliceBounds, Instr.sliceBound, asIntOf, Addr.add]
  omega

/-- What 'put' hands back. -/
def PutPost (w : World) (base Ba nn : Nat) (av : Nat → Value) (c : Nat → Int) (a b : Nat) (d : Int) (e : Ending) (w' : World) : Prop :=
  e = .returned (.int .i64 (c b + d)) ∧ ∃ v' L', Blk w' Ba 64 nn (upd av a v') ∧ w'.ownsRow base 66 2 v' L'.length (linkCells L') ∧ RepL nn L' (upd c b (c b + d)) ∧
    (∀ k, v'.ownBlock = some k → (av a).ownBlock = some k ∨ w.heap.size ≤ k) ∧ Keep w.heap.size (fun k => (av a).ownBlock = some k ∨ k = Ba) w w'

theorem upd_self {α : Type} (f : Nat → α) (a : Nat) : upd f a (f a) = f := by
  funext x
  unfold upd
  split
  · rename_i e; rw [e]
  · rfl
end Go.Proofs.Ybulkfeps.lawS7805BWhole
