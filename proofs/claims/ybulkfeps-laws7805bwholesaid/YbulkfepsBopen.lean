/-
  What the walk is told of the rows that came in: the steps, the queries and the marks, opened from the arguments' data.
-/
import Derived.Test.YbulkfepsBmain0
import Derived.Deep.SlicePairs
import Derived.Deep.MidRow
import Derived.OpenShut
namespace Go.Proofs.Ybulkfeps.lawS7805BWhole
open Go.ChangeShapes Go.WideShapes Go.ChangeAt Go.RowKit
open Go.Deep (open_slice open_slice1 open_slice_pairs choose_lt add_add)
set_option linter.unusedVariables false

section
variable {H : Type} {enc : TypeId × Value → H} {P : Program} {w : World} {base : Nat} {spare : Nat → Bool} {held : Bool}

theorem range_map_at {α : Type} {n k : Nat} {f : Nat → α} {p : α} (h : ((List.range n).map f)[k]? = some p) : k < n ∧ p = f k := by
  rw [List.getElem?_map] at h
  by_cases hk : k < n
  · rw [List.getElem?_range hk] at h
    simp at h
    exact ⟨hk, h.symm⟩
  · rw [List.getElem?_eq_none (by simp; omega)] at h
    simp at h

theorem open_ops {t e : TypeId} {f0 f1 f2 : Field} {fuel : Nat} {ao : Option Addr} {len cap : Nat} {x : DataW H × List MemPlace} (ht : P.underlying t = some (.slice e)) (he : P.underlying e = some (.struct #[f0, f1, f2]))
    (ce : P.cellsOf e = 3) (o0 : f0.offset = 0) (o1 : f1.offset = 1) (o2 : f2.offset = 2) (c0 : P.cellsOf f0.type = 1) (c1 : P.cellsOf f1.type = 1) (c2 : P.cellsOf f2.type = 1)
    (u0 : P.underlying f0.type = some (.int .u8)) (u1 : P.underlying f1.type = some (.int .u8)) (u2 : P.underlying f2.type = some (.int .i8))
    (h : DataW.trod enc P w base spare held fuel t [.slice ao len cap] = some x) : ∃ ops, ops.length = len ∧ OpsIn w w.heap.size (.slice ao len cap) ops := by
  rcases open_slice ht h with ⟨hcs, _⟩ | ⟨a, l, c, m, n, D, Pl, hcs, _, hl, _, hmm, _, hx⟩
  · simp at hcs
    obtain ⟨rfl, rfl, rfl⟩ := hcs
    exact ⟨[], rfl, none, 0, rfl, fun p hp => (by cases hp), .inl rfl⟩
  · simp at hcs
    obtain ⟨rfl, rfl, rfl⟩ := hcs
    have hlm : len ≤ m := by rw [hmm]; split <;> omega
    have each : ∀ i, i < len → ∃ q : Nat × Nat × Int, (q.1 < 256 ∧ q.2.1 < 256 ∧ -128 ≤ q.2.2 ∧ q.2.2 ≤ 127) ∧ w.cell? (a.add (i * 3)) = some (.int .u8 (q.1 : Int)) ∧ w.cell? (a.add (i * 3 + 1)) = some (.int .u8 (q.2.1 : Int)) ∧ w.cell? (a.add (i * 3 + 2)) = some (.int .i8 q.2.2) := by
      intro i hi
      obtain ⟨cs', h1, h2⟩ := hx i (by omega)
      rw [ce] at h1
      obtain ⟨_, hlen, hcell⟩ := World.cells?_some h1
      obtain ⟨xs, k, hk, hxy, _, hxl, hf⟩ := DataW.trod_struct he h2
      match xs, hxl, cs', hlen with
      | [y0, y1, y2], _, [v0, v1, v2], _ =>
        have g0 := hf 0 f0 rfl
        have g1 := hf 1 f1 rfl
        have g2 := hf 2 f2 rfl
        simp [o0, o1, o2, c0, c1, c2] at g0 g1 g2
        obtain ⟨n0, e0, _, b0⟩ := DataW.trod_int u0 g0
        obtain ⟨n1, e1, _, b1⟩ := DataW.trod_int u1 g1
        obtain ⟨n2, e2, _, b2⟩ := DataW.trod_int u2 g2
        simp at e0 e1 e2
        subst e0 e1 e2
        have d0 := hcell 0 (by omega)
        have d1 := hcell 1 (by omega)
        have d2 := hcell 2 (by omega)
        rw [add_add] at d0 d1 d2
        have k0 := bounds_u8 b0
        have k1 := bounds_u8 b1
        have k2 := bounds_i8 b2
        refine ⟨(n0.toNat, n1.toNat, n2), ⟨by show n0.toNat < 256; omega, by show n1.toNat < 256; omega, k2⟩, ?_, ?_, ?_⟩
        · show _ = some (Value.int .u8 ((n0.toNat : Nat) : Int))
          rw [Int.toNat_of_nonneg k0.1]
          simpa using d0
        · show _ = some (Value.int .u8 ((n1.toNat : Nat) : Int))
          rw [Int.toNat_of_nonneg k1.1]
          simpa using d1
        · simpa using d2
    obtain ⟨q, hq⟩ := choose_lt each
    refine ⟨(List.range len).map q, by simp, some a, cap, by simp, fun p hp => ?_, ?_⟩
    · obtain ⟨i, hi, rfl⟩ := List.mem_map.1 hp
      exact (hq i (List.mem_range.1 hi)).1
    · by_cases h0 : len = 0
      · left; simp [h0]
      · right
        obtain ⟨b, off, sp⟩ := a
        have hs : sp = none := by simpa [Addr.add] using World.cell?_spot (hq 0 (by omega)).2.1
        subst hs
        have hb := World.block_lt_of_cell? _ _ (hq 0 (by omega)).2.1
        refine ⟨b, off, rfl, by simpa [Addr.add] using hb, fun k p hp => ?_⟩
        obtain ⟨hk, rfl⟩ := range_map_at hp
        obtain ⟨_, d0, d1, d2⟩ := hq k hk
        rw [Addr.add_mid] at d0 d1 d2
        exact ⟨d0, d1, d2⟩

theorem open_qs {t e : TypeId} {f0 f1 : Field} {fuel : Nat} {ao : Option Addr} {len cap : Nat} {x : DataW H × List MemPlace} (ht : P.underlying t = some (.slice e)) (he : P.underlying e = some (.struct #[f0, f1]))
    (ce : P.cellsOf e = 2) (o0 : f0.offset = 0) (o1 : f1.offset = 1) (c0 : P.cellsOf f0.type = 1) (c1 : P.cellsOf f1.type = 1)
    (u0 : P.underlying f0.type = some (.int .u8)) (u1 : P.underlying f1.type = some (.int .u8))
    (h : DataW.trod enc P w base spare held fuel t [.slice ao len cap] = some x) : ∃ qs, qs.length = len ∧ QsIn w w.heap.size (.slice ao len cap) qs := by
  rcases open_slice_pairs ht he ce o0 o1 c0 c1 h with ⟨hcs, _⟩ | ⟨a, l, c, m, n, V0, V1, D0, D1, P0, P1, hcs, _, hl, _, hmm, _, hx⟩
  · simp at hcs
    obtain ⟨rfl, rfl, rfl⟩ := hcs
    exact ⟨[], rfl, none, 0, rfl, fun p hp => (by cases hp), .inl rfl⟩
  · simp at hcs
    obtain ⟨rfl, rfl, rfl⟩ := hcs
    have hlm : len ≤ m := by rw [hmm]; split <;> omega
    have each : ∀ i, i < len → ∃ q : Nat × Nat, (q.1 < 256 ∧ q.2 < 256) ∧ w.cell? (a.add (i * 2)) = some (.int .u8 (q.1 : Int)) ∧ w.cell? (a.add (i * 2 + 1)) = some (.int .u8 (q.2 : Int)) := by
      intro i hi
      obtain ⟨d0, d1, g0, g1⟩ := hx i (by omega)
      obtain ⟨n0, e0, _, b0⟩ := DataW.trod_int u0 g0
      obtain ⟨n1, e1, _, b1⟩ := DataW.trod_int u1 g1
      simp at e0 e1
      rw [e0] at d0
      rw [e1] at d1
      have k0 := bounds_u8 b0
      have k1 := bounds_u8 b1
      refine ⟨(n0.toNat, n1.toNat), ⟨by show n0.toNat < 256; omega, by show n1.toNat < 256; omega⟩, ?_, ?_⟩
      · show _ = some (Value.int .u8 ((n0.toNat : Nat) : Int))
        rw [Int.toNat_of_nonneg k0.1]
        exact d0
      · show _ = some (Value.int .u8 ((n1.toNat : Nat) : Int))
        rw [Int.toNat_of_nonneg k1.1]
        exact d1
    obtain ⟨q, hq⟩ := choose_lt each
    refine ⟨(List.range len).map q, by simp, some a, cap, by simp, fun p hp => ?_, ?_⟩
    · obtain ⟨i, hi, rfl⟩ := List.mem_map.1 hp
      exact (hq i (List.mem_range.1 hi)).1
    · by_cases h0 : len = 0
      · left; simp [h0]
      · right
        obtain ⟨b, off, sp⟩ := a
        have hs : sp = none := by simpa [Addr.add] using World.cell?_spot (hq 0 (by omega)).2.1
        subst hs
        have hb := World.block_lt_of_cell? _ _ (hq 0 (by omega)).2.1
        refine ⟨b, off, rfl, by simpa [Addr.add] using hb, fun k p hp => ?_⟩
        obtain ⟨hk, rfl⟩ := range_map_at hp
        obtain ⟨_, d0, d1⟩ := hq k hk
        rw [Addr.add_mid] at d0 d1
        exact ⟨d0, d1⟩

theorem open_bs {t e : TypeId} {fuel : Nat} {ao : Option Addr} {len cap : Nat} {x : DataW H × List MemPlace} (ht : P.underlying t = some (.slice e)) (he : P.underlying e = some .bool) (ce : P.cellsOf e = 1)
    (h : DataW.trod enc P w base spare held fuel t [.slice ao len cap] = some x) : ∃ bs, BoolRow w w.heap.size (.slice ao len cap) bs := by
  rcases open_slice1 ht ce h with ⟨hcs, _⟩ | ⟨a, l, c, m, n, V, D, Pl, hcs, _, hl, _, hmm, _, hx⟩
  · simp at hcs
    obtain ⟨rfl, rfl, rfl⟩ := hcs
    exact ⟨[], none, 0, rfl, .inl rfl⟩
  · simp at hcs
    obtain ⟨rfl, rfl, rfl⟩ := hcs
    have hlm : len ≤ m := by rw [hmm]; split <;> omega
    have each : ∀ i, i < len → ∃ q : Bool, w.cell? (a.add i) = some (.bool q) := by
      intro i hi
      obtain ⟨d0, g0⟩ := hx i (by omega)
      obtain ⟨q, e0, _⟩ := DataW.trod_bool he g0
      simp at e0
      rw [e0] at d0
      exact ⟨q, d0⟩
    obtain ⟨q, hq⟩ := choose_lt each
    refine ⟨(List.range len).map q, some a, cap, by simp, ?_⟩
    by_cases h0 : len = 0
    · left; simp [h0]
    · right
      obtain ⟨b, off, sp⟩ := a
      have hs : sp = none := by simpa [Addr.add] using World.cell?_spot (hq 0 (by omega))
      subst hs
      have hb := World.block_lt_of_cell? _ _ (hq 0 (by omega))
      refine ⟨b, off, rfl, by simpa [Addr.add] using hb, fun k hk => ?_⟩
      have hk' : k < len := by simpa using hk
      have d0 := hq k hk'
      rw [Addr.add_mid] at d0
      rw [d0]
      simp [List.getD, List.getElem?_range hk']
end
end Go.Proofs.Ybulkfeps.lawS7805BWhole
