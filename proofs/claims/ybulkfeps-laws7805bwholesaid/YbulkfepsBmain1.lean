import Derived.Test.YbulkfepsBmain0
namespace Go.Proofs.Ybulkfeps.lawS7805BWhole
open Go.ChangeShapes Go.WideShapes Go.ChangeAt Go.RowKit
set_option linter.unusedVariables false

/-- Nothing appended. -/
theorem run_append_none (w : World) (t ty e : TypeId) (i : TypeInfo) (ht : Yba.prog.underlying t = some (.slice e)) (hi : Yba.prog.info? e = some i) (ao : Option Addr) (n cap c : Nat) (h : n ≤ cap) (hn : ao = none → n = 0 ∧ cap = 0) :
    (Builtin.append_ #[t, t] ty #[.slice ao n cap, .slice none 0 c]).run Yba.prog w = .ok (.slice ao n cap) w := by
  cases ao with
  | none =>
    obtain ⟨rfl, rfl⟩ := hn rfl
    simp [Builtin.append_, run_underlying ht, sizeOf, typeInfo, hi, Builtin.lenOf, Builtin.firstCells]
  | some a => simp [Builtin.append_, run_underlying ht, sizeOf, typeInfo, hi, Builtin.lenOf, Builtin.firstCells, loadCells, h, storeCells]

/-- The cut pairs once more, in a block of their own. -/
theorem run_dup (w : World) (base : Nat) (cutv : Value) (cutL : List (Nat × Nat)) (h : w.ownsRow base 67 2 cutv cutL.length (pairCells cutL)) (hn : cutL.length ≤ 100000) :
    ∃ vB w', (Builtin.append_ #[53, 53] 53 #[.slice none 0 0, cutv]).run Yba.prog w = .ok vB w' ∧ w'.ownsRow w.heap.size 67 2 vB cutL.length (pairCells cutL) ∧ Keep w.heap.size (fun _ => False) w w' := by
  obtain ⟨i0, hi, hz0, hz1, hz2⟩ := info_parts info67
  obtain ⟨ao, cap, rfl, hc, _, hao, hao'⟩ := owns_form h
  rcases hao with rfl | ⟨g, rfl⟩
  · have h0 := (hao' rfl).1
    refine ⟨.slice none 0 0, w, ?_, ?_, Keep.refl _ _ _⟩
    · rw [h0]
      exact run_append_none w 53 53 67 i0 Yba.underlying53 hi none 0 0 cap (Nat.le_refl _) (fun _ => ⟨rfl, rfl⟩)
    · have : cutL = [] := List.eq_nil_of_length_eq_zero h0
      subst this
      exact World.ownsRow_nil _ _ _ _
  · obtain ⟨v', w', hr, q1, q2, _⟩ := run_append_own (P := Yba.prog) w w.heap.size 53 53 67 i0 (.agg #[.int .i64 0, .int .i64 0]) 2 16 Yba.underlying53 hi hz0 hz1 hz2 rfl (by decide) (.slice none 0 0) 0 [] (World.ownsRow_nil _ _ _ _)
      ⟨g, 0, none⟩ cutL.length cap (pairCells cutL) (pairCells_length cutL) (h.cells rfl) (pairCells_one cutL) (by unfold maxLen; omega) (by omega) (Nat.le_refl _)
    refine ⟨v', w', hr, by simpa using q1, ?_⟩
    exact (Keep.refl _ _ _).grown q2 (Nat.le_refl _) (fun k hk => by cases hk)

/-- The cells of queries. -/
def qCells : List (Nat × Nat) → List Value
  | [] => []
  | p :: L => .int .u8 (p.1 : Int) :: .int .u8 (p.2 : Int) :: qCells L

theorem qCells_append : ∀ L M : List (Nat × Nat), qCells (L ++ M) = qCells L ++ qCells M
  | [], M => rfl
  | p :: L, M => by simp [qCells, qCells_append L M]

theorem qCells_at : ∀ (L : List (Nat × Nat)) (j : Nat) (p : Nat × Nat), L[j]? = some p → (qCells L)[j * 2]? = some (.int .u8 (p.1 : Int)) ∧ (qCells L)[j * 2 + 1]? = some (.int .u8 (p.2 : Int))
  | [], j, p, h => by simp at h
  | q :: L, 0, p, h => by
    simp at h
    subst h
    exact ⟨rfl, rfl⟩
  | q :: L, j + 1, p, h => by
    have := qCells_at L j p (by simpa using h)
    rw [show (j + 1) * 2 = j * 2 + 2 by omega]
    exact this

theorem qCells_one : ∀ (L : List (Nat × Nat)) (u : Value), u ∈ qCells L → u.oneCell' = true
  | [], u, h => by cases h
  | p :: L, u, h => by
    simp only [qCells, List.mem_cons] at h
    rcases h with rfl | rfl | h
    · rfl
    · rfl
    · exact qCells_one L u h

theorem qCells_length : ∀ L : List (Nat × Nat), (qCells L).length = L.length * 2
  | [] => rfl
  | p :: L => by
    simp only [qCells, List.length_cons, qCells_length L]
    omega

/-- The queries' cells, one by one. -/
theorem qCells_of {w : World} {b off : Nat} : ∀ (qs : List (Nat × Nat)) (o : Nat), (∀ k p, qs[k]? = some p → w.cell? ⟨b, off + (o + k * 2), none⟩ = some (.int .u8 (p.1 : Int)) ∧ w.cell? ⟨b, off + (o + k * 2) + 1, none⟩ = some (.int .u8 (p.2 : Int))) →
    ∀ j u, (qCells qs)[j]? = some u → w.cell? ⟨b, off + (o + j), none⟩ = some u
  | [], o, h, j, u, hu => by simp [qCells] at hu
  | p :: qs, o, h, 0, u, hu => by
    cases hu
    exact (h 0 p rfl).1
  | p :: qs, o, h, 1, u, hu => by
    cases hu
    exact (h 0 p rfl).2
  | p :: qs, o, h, j + 2, u, hu => by
    have := qCells_of qs (o + 2) (fun k q hq => by
      have := h (k + 1) q (by simpa using hq)
      rw [show o + (k + 1) * 2 = o + 2 + k * 2 by omega] at this
      exact this) j u hu
    rw [show o + (j + 2) = o + 2 + j by omega]
    exact this

theorem info59 : (Yba.prog.info? 59).map (fun i => (i.zero, i.size, i.bytes)) = some (some (.agg #[.int .u8 0, .int .u8 0]), 2, 2) := by kernel_rfl

/-- The list of all queries, step by step. -/
def AllPost (w : World) (qs : List (Nat × Nat)) (a b : Nat) (aoQ : Option Addr) (cQ : Nat) : Prop :=
    ∃ w1 v2 w2 g cap w3, (Instr.makeSlice 44 (.int .i64 0) (.int .i64 ((qs.length + 1 : Nat) : Int))).run Yba.prog w = .ok (.slice (some ⟨w.heap.size, 0, none⟩) 0 (qs.length + 1)) w1 ∧
      (Builtin.append_ #[44, 44] 44 #[.slice (some ⟨w.heap.size, 0, none⟩) 0 (qs.length + 1), .slice (some ⟨w1.heap.size, 0, none⟩) 1 1]).run Yba.prog (w1.alloc (.cells #[.int .u8 (a : Int), .int .u8 (b : Int)] 59)) = .ok v2 w2 ∧
      (Builtin.append_ #[44, 44] 44 #[v2, .slice aoQ qs.length cQ]).run Yba.prog w2 = .ok (.slice (some ⟨g, 0, none⟩) (qs.length + 1) cap) w3 ∧
      w3.ownsRow w.heap.size 59 2 (.slice (some ⟨g, 0, none⟩) (qs.length + 1) cap) (qs.length + 1) (qCells ((a, b) :: qs)) ∧ Keep w.heap.size (fun _ => False) w w3

/-- The list of all queries is laid: made, one appended, the rest appended. -/
theorem run_all (w : World) (qs : List (Nat × Nat)) (a b : Nat) (aoQ : Option Addr) (cQ B : Nat) (hB : B ≤ w.heap.size) (hql : qs.length ≤ 4096)
    (hQ : qs.length = 0 ∨ ∃ b off, aoQ = some ⟨b, off, none⟩ ∧ b < B ∧ ∀ k p, qs[k]? = some p → w.cell? ⟨b, off + k * 2, none⟩ = some (.int .u8 (p.1 : Int)) ∧ w.cell? ⟨b, off + k * 2 + 1, none⟩ = some (.int .u8 (p.2 : Int))) :
    AllPost w qs a b aoQ cQ := by
  obtain ⟨i0, hi, hz0, hz1, hz2⟩ := info_parts info59
  obtain ⟨w1, hr1, o1, g1⟩ := run_make_own (P := Yba.prog) w w.heap.size 44 59 i0 (.agg #[.int .u8 0, .int .u8 0]) 2 Yba.underlying44 hi hz0 hz1 .i64 .i64 (qs.length + 1) (by rw [hz2]; omega) (by unfold maxLen; omega) (Nat.le_refl _)
  have k1 : Keep w.heap.size (fun _ => False) w w1 := (Keep.refl _ _ _).grown g1 (Nat.le_refl _) (fun k hk => by cases hk)
  have k1' := k1.alloc k1.size (.cells #[.int .u8 (a : Int), .int .u8 (b : Int)] 59)
  obtain ⟨v2, w2, hr2, o2, g2, _⟩ := run_append_tell (P := Yba.prog) (w1.alloc (.cells #[.int .u8 (a : Int), .int .u8 (b : Int)] 59)) w.heap.size 44 44 59 i0 (.agg #[.int .u8 0, .int .u8 0]) 2 2 Yba.underlying44 hi hz0 hz1 hz2 rfl (by decide) _ 0 [] (o1.alloc _)
    ⟨w1.heap.size, 0, none⟩ 1 1 [.int .u8 (a : Int), .int .u8 (b : Int)] rfl (fun j u hu => by
      match j, hu with
      | 0, hu => cases hu; rw [Addr.add_lit, cell_of_row _ _ _ _ _ _ (heap_alloc_new w1 _)]; rfl
      | 1, hu => cases hu; rw [Addr.add_lit, cell_of_row _ _ _ _ _ _ (heap_alloc_new w1 _)]; rfl
      | j + 2, hu => simp at hu) (by simp [Value.oneCell']) (by decide) (by omega) k1'.size
  have k2 : Keep w.heap.size (fun _ => False) w w2 := k1'.grown g2 k1'.size (fun k hk => .inl (o1.lt k hk).1)
  have o2' : w2.ownsRow w.heap.size 59 2 v2 1 (qCells [(a, b)]) := o2
  obtain ⟨gg, cap2, rfl, hgb, _, hc2, _⟩ := owns_some o2' (by omega)
  have fin : ∀ v3 w3, (Builtin.append_ #[44, 44] 44 #[.slice (some ⟨gg, 0, none⟩) 1 cap2, .slice aoQ qs.length cQ]).run Yba.prog w2 = .ok v3 w3 → w3.ownsRow w.heap.size 59 2 v3 (qs.length + 1) (qCells ((a, b) :: qs)) → Keep w.heap.size (fun _ => False) w w3 →
      AllPost w qs a b aoQ cQ := by
    intro v3 w3 hr3 o3 k3
    obtain ⟨g3, cap3, rfl, _⟩ := owns_some o3 (by omega)
    exact ⟨w1, _, w2, g3, cap3, w3, hr1, hr2, hr3, o3, k3⟩
  have viaSome : ∀ ad : Addr, aoQ = some ad → (∀ j u, (qCells qs)[j]? = some u → w2.cell? (ad.add j) = some u) → AllPost w qs a b aoQ cQ := fun ad e hcells => by
    subst e
    obtain ⟨v3, w3, hr3, o3, g3, _⟩ := run_append_own (P := Yba.prog) w2 w.heap.size 44 44 59 i0 (.agg #[.int .u8 0, .int .u8 0]) 2 2 Yba.underlying44 hi hz0 hz1 hz2 rfl (by decide) _ 1 _ o2' ad qs.length cQ (qCells qs) (qCells_length qs) hcells (qCells_one qs) (by unfold maxLen; omega) (by omega) k2.size
    exact fin v3 w3 hr3 (by rw [Nat.add_comm]; exact o3) (k2.grown g3 k2.size (fun k hk => by have hk : some gg = some k := hk; cases hk; exact .inl hgb))
  rcases hQ with h0 | ⟨bq, off, rfl, hbq, hcq⟩
  · have hqs : qs = [] := List.eq_nil_of_length_eq_zero h0
    cases haq : aoQ with
    | none =>
      rw [haq] at fin
      subst hqs
      exact fin _ w2 (run_append_none w2 44 44 59 i0 Yba.underlying44 hi (some ⟨gg, 0, none⟩) 1 cap2 cQ hc2 (fun q => by cases q)) o2' k2
    | some ad =>
      rw [← haq]
      exact viaSome ad haq (fun j u hu => by rw [hqs] at hu; simp [qCells] at hu)
  · refine viaSome ⟨bq, off, none⟩ rfl (fun j u hu => ?_)
    rw [Addr.add_lit]
    have hc2' : ∀ p : Addr, p.block = bq → w2.cell? p = w.cell? p := fun p hp => k2.cell (by omega) id
    rw [hc2' ⟨bq, _, none⟩ rfl]
    have := qCells_of qs 0 (w := w) (b := bq) (off := off) (fun k p hp => by
      have := hcq k p hp
      rw [Nat.zero_add]
      exact this) j u hu
    rwa [Nat.zero_add] at this
end Go.Proofs.Ybulkfeps.lawS7805BWhole
