import Derived.Test.YbulkfepsRows
import Derived.Test.YbulkfepsBmem
import Derived.WalkKit
import Derived.ProofKit
import Derived.OpenShut
import Derived.ShutString
import Derived.ChangeOld
import Derived.BigQuiet
import Derived.Deep.QuietTactic
import Derived.Deep.Light
import Derived.WalkSpells
import Derived.WalkSmall
namespace Go.Proofs.Ybulkfeps.lawS7805BWhole
open Go.ChangeShapes Go.WideShapes Go.ChangeAt Go.RowKit
set_option linter.unusedVariables false

/-- The value v reads as these marks; they lie under block B. -/
def BoolRow (w : World) (B : Nat) (v : Value) (bs : List Bool) : Prop :=
  ∃ ao c, v = .slice ao bs.length c ∧ (bs.length = 0 ∨ ∃ b off, ao = some ⟨b, off, none⟩ ∧ b < B ∧ ∀ k, k < bs.length → w.cell? ⟨b, off + k, none⟩ = some (.bool (bs.getD k false)))

theorem BoolRow.keep {w w' : World} {B : Nat} {v : Value} {bs : List Bool} (h : BoolRow w B v bs) (hk : ∀ k, k < B → w'.heap[k]? = w.heap[k]?) : BoolRow w' B v bs := by
  obtain ⟨ao, c, rfl, hc⟩ := h
  refine ⟨ao, c, rfl, ?_⟩
  rcases hc with h | ⟨b, off, rfl, hb, hcc⟩
  · exact .inl h
  · exact .inr ⟨b, off, rfl, hb, fun k hk' => (World.cell?_of_block (w := w) (hk b hb)).trans (hcc k hk')⟩

set_option maxHeartbeats 400000 in
theorem bblk_any {w : World} {B : Nat} {v : Value} {bs : List Bool} (h : BoolRow w B v bs) (y : Nat) :
    Calls Yba.prog 10 #[v, .int .i64 (y : Int)] w fun e w' => e = .returned (.bool (bs.getD y false)) ∧ w' = w := by
  obtain ⟨ao, c, rfl, hc⟩ := h
  by_cases hy : y < bs.length
  · obtain ⟨b, off, rfl, _, hcc⟩ : ∃ b off, ao = some ⟨b, off, none⟩ ∧ b < B ∧ ∀ k, k < bs.length → w.cell? ⟨b, off + k, none⟩ = some (.bool (bs.getD k false)) := by
      rcases hc with h | h
      · omega
      · exact h
    have hck := hcc y hy
    clear hc hcc
    generalize bs.getD y false = r at *
    generalize bs.length = n at *
    go_enter Yba.func10, Yba.ntmps10
    go_wp2
    go_ret
    exact ⟨rfl, rfl⟩
  · have hf : bs.getD y false = false := by simp [List.getD, List.getElem?_eq_none (Nat.le_of_not_lt hy)]
    rw [hf]
    clear hc hf
    generalize bs.length = n at *
    go_enter Yba.func10, Yba.ntmps10
    go_wp2
    go_ret
    exact ⟨rfl, rfl⟩

theorem info3 : (Yba.prog.info? 3).map (fun i => (i.zero, i.size, i.bytes)) = some (some (.int .i64 0), 1, 8) := by kernel_rfl

/-- One number appended to a row of numbers, in the world where the one-element slice lies. -/
theorem push_int (w : World) (base : Nat) (ty : TypeId) (v : Value) (n : Nat) (xs : List Value) (y : Int) (hown : w.ownsRow base 3 1 v n xs) (hn : n ≤ 1000000) (hb : base ≤ w.heap.size) :
    ∃ g' cap' w', (Builtin.append_ #[48, 48] ty #[v, .slice (some ⟨w.heap.size, 0, none⟩) 1 1]).run Yba.prog (w.alloc (.cells #[.int .i64 y] 3)) = .ok (.slice (some ⟨g', 0, none⟩) (n + 1) cap') w' ∧
      w'.ownsRow base 3 1 (.slice (some ⟨g', 0, none⟩) (n + 1) cap') (n + 1) (xs ++ [.int .i64 y]) ∧ Keep w.heap.size (fun k => v.ownBlock = some k) w w' ∧ (v.ownBlock = some g' ∨ w.heap.size ≤ g') := by
  obtain ⟨i0, hi, hz0, hz1, hz2⟩ := info_parts info3
  obtain ⟨v', w', hr, h1, h2, h3⟩ := run_append_tell (P := Yba.prog) (w.alloc (.cells #[.int .i64 y] 3)) base 48 ty 3 i0 (.int .i64 0) 1 8 Yba.underlying48 hi hz0 hz1 hz2 rfl (by decide) v n xs (hown.alloc _)
    ⟨w.heap.size, 0, none⟩ 1 1 [.int .i64 y] rfl (fun j u hu => by
      match j, hu with
      | 0, hu => cases hu; rw [Addr.add_lit, cell_of_row _ _ _ _ _ _ (heap_alloc_new w _)]; rfl
      | j + 1, hu => simp at hu) (by simp [Value.oneCell']) (by unfold maxLen; omega) (by omega) (by show base ≤ (w.heap.push _).size; simp; omega)
  obtain ⟨g', cap', rfl, _⟩ := owns_some h1 (by omega)
  refine ⟨g', cap', w', hr, h1, ?_, ?_⟩
  · have k1 : Keep w.heap.size (fun k => v.ownBlock = some k) w (w.alloc (.cells #[.int .i64 y] 3)) := (Keep.refl _ _ _).alloc (Nat.le_refl _) _
    exact k1.grown h2 (by show w.heap.size ≤ (w.heap.push _).size; simp) (fun k hk => .inr hk)
  · rcases h3 g' rfl with h | h
    · exact .inl h
    · exact .inr (by have h : (w.heap.push _).size ≤ g' := h; simp at h; omega)

set_option maxHeartbeats 400000 in
theorem blocked_any (W : World) (base0 base Bc Bk : Nat) (v bv : Value) (n : Nat) (xs : List Value) (bs : List Bool) (y : Nat) (hn : n ≤ 1000000)
    (hc : W.heap[Bc]? = some (.cells #[v] 48 (0, 0))) (hk : W.heap[Bk]? = some (.cells #[bv] 43 (0, 0))) (hbr : BoolRow W base0 bv bs) (hown : W.ownsRow base 3 1 v n xs)
    (h1 : base0 ≤ Bc) (h3 : Bc < base) (h4 : Bk < base) (h5 : base ≤ W.heap.size) (h6 : base0 ≤ base) :
    Calls Yba.prog 9 #[.int .i64 (y : Int), .pointer (some ⟨Bc, 0, none⟩), .pointer (some ⟨Bk, 0, none⟩)] W fun e W' => e = .returned (.bool (bs.getD y false)) ∧
      ∃ g' cap', W'.heap[Bc]? = some (.cells #[.slice (some ⟨g', 0, none⟩) (n + 1) cap'] 48 (0, 0)) ∧ W'.ownsRow base 3 1 (.slice (some ⟨g', 0, none⟩) (n + 1) cap') (n + 1) (xs ++ [.int .i64 (y : Int)]) ∧
        (v.ownBlock = some g' ∨ W.heap.size ≤ g') ∧ Keep W.heap.size (fun k => v.ownBlock = some k ∨ k = Bc) W W' := by
  obtain ⟨g', cap', w', hrun, ho', hkeep, htell⟩ := push_int W base 48 v n xs y hown hn h5
  have hne : Bc ≠ Bk := by
    intro e
    subst e
    rw [hc] at hk
    cases hk
  have hvo : ∀ k, v.ownBlock = some k → base ≤ k := fun k hk => (hown.lt k hk).1
  have c1 : w'.heap[Bc]? = some (.cells #[v] 48 (0, 0)) := (hkeep.block (by omega) (fun e => by have := hvo _ e; omega)).trans hc
  have c2 : w'.heap[Bk]? = some (.cells #[bv] 43 (0, 0)) := (hkeep.block (by omega) (fun e => by have := hvo _ e; omega)).trans hk
  have f1 := heap_setCell_same w' Bc 0 _ 48 (.slice (some ⟨g', 0, none⟩) (n + 1) cap') c1
  have f2 : (w'.setCell ⟨Bc, 0, none⟩ (.slice (some ⟨g', 0, none⟩) (n + 1) cap')).heap[Bk]? = some (.cells #[bv] 43 (0, 0)) := (heap_setCell_other w' ⟨Bc, 0, none⟩ Bk _ (Ne.symm hne)).trans c2
  have K2 : Keep W.heap.size (fun k => v.ownBlock = some k ∨ k = Bc) W (w'.setCell ⟨Bc, 0, none⟩ (.slice (some ⟨g', 0, none⟩) (n + 1) cap')) := (hkeep.mono (Nat.le_refl _) (fun k _ h => .inl h)).setCell (.inr (.inr rfl)) _
  have B2 : BoolRow (w'.setCell ⟨Bc, 0, none⟩ (.slice (some ⟨g', 0, none⟩) (n + 1) cap')) base0 bv bs := hbr.keep fun k hk => K2.block (by omega) (fun e => by
    rcases e with e | e
    · have := hvo _ e; omega
    · omega)
  have O2 : (w'.setCell ⟨Bc, 0, none⟩ (.slice (some ⟨g', 0, none⟩) (n + 1) cap')).ownsRow base 3 1 (.slice (some ⟨g', 0, none⟩) (n + 1) cap') (n + 1) (xs ++ [.int .i64 (y : Int)]) := owns_frame ho' (fun k hk => heap_setCell_other _ _ _ _ (fun e => by
    have := (ho'.lt k hk).1
    have e : k = Bc := e
    omega))
  have HB : Hid (BoolRow (w'.setCell ⟨Bc, 0, none⟩ (.slice (some ⟨g', 0, none⟩) (n + 1) cap')) base0 bv bs) := B2
  have d1 : W.cell? ⟨Bc, 0, none⟩ = some v := cell_of_row W Bc 0 _ _ _ hc
  have d2 : w'.cell? ⟨Bc, 0, none⟩ = some v := cell_of_row w' Bc 0 _ _ _ c1
  have d3 : w'.frozen? ⟨Bc, 0, none⟩ = false := frozen_of_row w' Bc 0 _ _ c1
  have d4 : (w'.setCell ⟨Bc, 0, none⟩ (.slice (some ⟨g', 0, none⟩) (n + 1) cap')).cell? ⟨Bk, 0, none⟩ = some bv := cell_of_row _ Bk 0 _ _ _ f2
  have HP : Hid (∃ g' cap', (w'.setCell ⟨Bc, 0, none⟩ (.slice (some ⟨g', 0, none⟩) (n + 1) cap')).heap[Bc]? = some (.cells #[.slice (some ⟨g', 0, none⟩) (n + 1) cap'] 48 (0, 0)) ∧ True) := ⟨g', cap', f1, trivial⟩
  have HR : Hid ((Builtin.append_ #[48, 48] 48 #[v, .slice (some ⟨W.heap.size, 0, none⟩) 1 1]).run Yba.prog (W.alloc (.cells #[.int .i64 y] 3)) = .ok (.slice (some ⟨g', 0, none⟩) (n + 1) cap') w') := hrun
  have HF : Hid ((w'.setCell ⟨Bc, 0, none⟩ (.slice (some ⟨g', 0, none⟩) (n + 1) cap')).heap[Bc]? = some (.cells #[.slice (some ⟨g', 0, none⟩) (n + 1) cap'] 48 (0, 0))) := f1
  have HO : Hid ((w'.setCell ⟨Bc, 0, none⟩ (.slice (some ⟨g', 0, none⟩) (n + 1) cap')).ownsRow base 3 1 (.slice (some ⟨g', 0, none⟩) (n + 1) cap') (n + 1) (xs ++ [.int .i64 (y : Int)])) := O2
  have HT : Hid (v.ownBlock = some g' ∨ W.heap.size ≤ g') := htell
  have HK : Hid (Keep W.heap.size (fun k => v.ownBlock = some k ∨ k = Bc) W (w'.setCell ⟨Bc, 0, none⟩ (.slice (some ⟨g', 0, none⟩) (n + 1) cap'))) := K2
  clear hc hk hbr hown h1 h3 h4 h5 h6 hrun ho' hkeep htell hvo c1 c2 f1 f2 K2 B2 O2 HP
  go_enter Yba.func9, Yba.ntmps9
  go_wp2_with (first | (at_builtin; refine wpList_append_eq rfl (.tmp 5) (.tmp 7) 48 48 ?_ ?_ _ _ _ _ ?_ ?_ HR.out ?_; exact rfl; exact rfl; exact rfl; exact rfl) | (go_at_call 10; refine (bblk_any HB.out y).mono ?_; rintro e w'' ⟨rfl, rfl⟩))
  go_ret
  exact ⟨rfl, g', cap', HF.out, HO.out, HT.out, HK.out⟩
end Go.Proofs.Ybulkfeps.lawS7805BWhole
