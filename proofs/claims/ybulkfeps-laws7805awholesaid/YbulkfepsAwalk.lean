import Derived.Test.YbulkfepsAon
import Derived.Deep.MidRow
import Derived.WalkSpells
import Derived.Deep.Light
import Derived.WalkSmall
namespace Go.Proofs.Ybulkfeps.lawS7805AWhole
open Go.ChangeShapes Go.WideShapes Go.ChangeAt Go.RowKit
set_option linter.unusedVariables false

theorem info30 : (Yba.prog.info? 30).map (fun i => (i.zero, i.size, i.bytes)) = some (some (.agg #[.int .u64 0, .int .u8 0, .int .u64 0, .bool false, .int .u64 0, .bool false, .int .u64 0, .bool false, .int .u64 0, .bool false]), 10, 80) := by kernel_rfl
theorem size30 : (Yba.prog.info? 30).map (·.size) = some 10 := by kernel_rfl

/-- The ten cells of one level. -/
def pc (id z : Int) : List Value := [.int .u64 id, .int .u8 z, .int .u64 0, .bool false, .int .u64 0, .bool false, .int .u64 0, .bool false, .int .u64 0, .bool false]

/-- The levels' row: n of them are there, the first k are laid. -/
def Lv (w : World) (B n k : Nat) (id : Int) (zs : List Int) : Prop :=
  w.there B 0 (n * 10) ∧ ∀ j, j < k → w.rangeAt B (j * 10) (pc id (zs.getD j 0))

theorem Lv.start {w : World} {B n : Nat} {id : Int} {zs : List Int} {xs : List Value} (h : w.ownsRow B 30 10 (.slice (some ⟨B, 0, none⟩) n n) n xs) : Lv w B n 0 id zs := by
  refine ⟨fun j hj => ⟨?_, h.frozenAt _⟩, fun j hj => absurd hj (Nat.not_lt_zero _)⟩
  rw [h.cellAt (0 + j) (by omega)]
  have := h.1
  rw [List.getElem?_eq_getElem (by omega)]
  rfl

theorem Lv.there10 {w : World} {B n k : Nat} {id : Int} {zs : List Int} (h : Lv w B n k id zs) (hk : k < n) : w.there B (k * 10) 10 := fun j hj => by
  have := h.1 (k * 10 + j) (by omega)
  simpa using this

theorem Lv.step {w : World} {B n k : Nat} {id : Int} {zs : List Int} (h : Lv w B n k id zs) (hk : k < n) : Lv (w.setCells B (k * 10) (pc id (zs.getD k 0))) B n (k + 1) id zs := by
  refine ⟨World.there_setCells h.1 _ _ _, fun j hj => ?_⟩
  by_cases e : j = k
  · subst e
    exact World.rangeAt_setCells_same w B (j * 10) _ (h.there10 hk)
  · exact World.rangeAt_setCells_apart (h.2 j (by omega)) _ _ _ (.inr (.inl (by simp [pc]; omega)))

theorem Lv.alloc {w : World} {B n k : Nat} {id : Int} {zs : List Int} (h : Lv w B n k id zs) (o : Obj) : Lv (w.alloc o) B n k id zs :=
  ⟨World.there_alloc h.1 o, fun j hj => World.rangeAt_alloc (h.2 j hj) o⟩

theorem below_setCells {B : Nat} {a : World} {g : Nat} (hg : B ≤ g) : ∀ (vs : List Value) (o : Nat) {w : World}, Below B a w → Below B a (w.setCells g o vs)
  | [], _, _, h => h
  | v :: r, o, w, h => by
    rw [World.setCells]
    exact below_setCells hg r (o + 1) (h.setCell (p := ⟨g, o, none⟩) hg v)

theorem size_setCells (b : Nat) : ∀ (vs : List Value) (o : Nat) (w : World), (w.setCells b o vs).heap.size = w.heap.size
  | [], _, _ => rfl
  | v :: r, o, w => by
    rw [World.setCells, size_setCells b r (o + 1)]
    simp

/-- A member's cells. -/
def mem (id z : Int) (v : Value) : Array Value := #[.int .u64 id, .int .u8 z, .int .u64 0, .bool false, .int .u64 0, .bool false, .int .u64 0, .bool false, .int .u64 0, .bool false, v, .bool false, .int .i64 0, .slice none 0 0, .slice none 0 0, .slice none 0 0, .map none, .int .u64 0, .bool false, .slice none 0 0, .slice none 0 0, .int .u64 0, .bool false]

/-- What is asked of the member in block g. -/
def Mem (w : World) (g : Nat) (id z : Int) (v : Value) : Prop := w.rangeAt g 0 (pc id z) ∧ w.cell? ⟨g, 10, none⟩ = some v

theorem Mem.made (w : World) (id z : Int) (v : Value) : Mem (w.alloc (.cells (mem id z v) 38)) w.heap.size id z v := by
  have h := heap_alloc_new w (.cells (mem id z v) 38)
  refine ⟨?_, by rw [cell_of_row _ _ _ _ _ _ h]; rfl⟩
  intro j u hu
  rw [cell_of_row _ _ _ _ _ _ h]
  match j, hu with
  | 0, hu => exact hu
  | 1, hu => exact hu
  | 2, hu => exact hu
  | 3, hu => exact hu
  | 4, hu => exact hu
  | 5, hu => exact hu
  | 6, hu => exact hu
  | 7, hu => exact hu
  | 8, hu => exact hu
  | 9, hu => exact hu
  | j + 10, hu => simp [pc] at hu

theorem Lv.drewN {w : World} {B n k : Nat} {id : Int} {zs : List Int} (h : Lv w B n k id zs) (q : Nat) : Lv (w.drewN q) B n k id zs := h
theorem Mem.drewN {w : World} {g : Nat} {id z : Int} {v : Value} (h : Mem w g id z v) (q : Nat) : Mem (w.drewN q) g id z v := h

theorem join_succ (zb : Int) (zs : List Int) (k : Nat) (h : k < zs.length) : joinB zb (zs.take (k + 1)) = (joinB zb (zs.take k) && onB (zs.getD k 0)) := by
  simp only [joinB, List.all_cons, all_take_succ onB zs k h, Bool.and_assoc]

theorem pc_one (id z : Int) : (pc id z).toArray.all (·.oneCell') = true := by simp [pc, Value.oneCell']

set_option maxHeartbeats 800000 in
theorem walk_some (id zb : Int) (b off n c : Nat) (sp : Option Nat) (zs : List Int) (hsp : 0 < n → sp = none) (hn : n ≤ 1048576) (w : World) (hid : (Lit.int .u64 id).wf = true) (hzb : (Lit.int .u8 zb).wf = true) (hzl : n ≤ zs.length)
    (hc : ∀ k, k < n → w.cell? ⟨b, off + k, none⟩ = some (.int .u8 (zs.getD k 0))) :
    Calls Yba.prog 3 #[.int .u64 id, .int .u8 zb, .slice (some ⟨b, off, sp⟩) n c] w fun e w' => e = .returned (.bool true) ∧ Below w.heap.size w w' := by
  have HC : Hid (∀ k, k < n → w.cell? ⟨b, off + k, none⟩ = some (.int .u8 (zs.getD k 0))) := hc
  have HS : Hid (0 < n → sp = none) := hsp
  clear hc hsp
  obtain ⟨i0, hi, hz0, hz1, hz2⟩ := info_parts info30
  have HI : Hid (Yba.prog.info? 30 = some i0) := hi
  have HI0 : Hid (i0.zero = some (.agg #[.int .u64 0, .int .u8 0, .int .u64 0, .bool false, .int .u64 0, .bool false, .int .u64 0, .bool false, .int .u64 0, .bool false])) := hz0
  have HI1 : Hid (i0.size = 10) := hz1
  have HI2 : Hid (i0.bytes = 80) := hz2
  clear hi hz0 hz1 hz2
  have qn : ∀ (w : World) (a : Option Addr) (n c : Nat), (binOp .neq 23 (.slice a n c) (.slice none 0 0)).run Yba.prog w = .ok (.bool (!a.isNone)) w := fun w a n c => run_neq_slice_nil_any w _ _ a n c 0 0 Yba.underlying23
  have qe : ∀ (w : World) (a : Option Addr) (n c : Nat), (binOp .eql 23 (.slice a n c) (.slice none 0 0)).run Yba.prog w = .ok (.bool a.isNone) w := fun w a n c => Lib.run_eql_slice_nil w _ _ a n c 0 0 Yba.underlying23
  have qe' : ∀ (w : World) (a : Option Addr) (n c : Nat), (binOp .eql 24 (.slice a n c) (.slice none 0 0)).run Yba.prog w = .ok (.bool a.isNone) w := fun w a n c => Lib.run_eql_slice_nil w _ _ a n c 0 0 Yba.underlying24
  go_enter Yba.func3, Yba.ntmps3
  go_wp2_with (at_make; refine wpList_make_full _ rfl (.tmp 20) (.tmp 20) 24 rfl w.heap.size 30 i0 _ 10 Yba.underlying24 HI.out HI0.out HI1.out .i64 .i64 _ _ n rfl rfl rfl rfl (by rw [HI2.out]; omega) (by unfold maxLen; omega) (Nat.le_refl _) ?_; intro w1 hown hgrow)
  have L0 : Lv w1 w.heap.size n 0 id zs := Lv.start hown
  have hb1 : Below w.heap.size w w1 := (Below.refl _ _).grown hgrow (Nat.le_refl _) (fun k hk => by cases hk)
  have hs1 : w.heap.size < w1.heap.size := (hown.lt w.heap.size rfl).2
  clear hown hgrow
  go_loopw [8] (fun i wr => ∃ k : Nat, k ≤ n ∧ i = .int .i64 k ∧ Lv wr w.heap.size n k id zs ∧ w.heap.size < wr.heap.size ∧ Below w.heap.size w wr) (fun i _ => n - (intOf i).toNat)
  case atStart => exact ⟨0, Nat.zero_le _, rfl, L0, hs1, hb1⟩
  case round =>
    clear L0 hb1 hs1
    obtain ⟨k, hk, rfl, hL, hsz, hbel⟩ := hrel
    by_cases hlt : k < n
    · obtain rfl := HS.out (by omega)
      have hbB : b < w.heap.size := block_lt_of_cell (HC.out 0 (by omega))
      have hck : wr.cell? ⟨b, off + k, none⟩ = some (.int .u8 (zs.getD k 0)) := (hbel.cell (by exact hbB)).trans (HC.out k hlt)
      have ht := hL.there10 hlt
      have L1 := hL.step hlt
      clear hL
      generalize hz : zs.getD k 0 = z at hck L1
      clear hz
      have HT : Hid (wr.there w.heap.size (k * 10) (pc id z).toArray.size) := ht
      clear ht
      go_wp2_with (refine wpList_store_mid rfl 30 (.tmp 36) (.tmp 35) ?_ w.heap.size (k * 10) (pc id z).toArray ?_ ?_ ?_ ?_ ?_ ?_; exact rfl; exact rfl; exact rfl; exact HT.out; exact size30; exact pc_one _ _)
      go_roundw
      case rel => go_light; exact ⟨k + 1, by omega, by go_num, L1, by rw [size_setCells]; exact hsz, below_setCells (Nat.le_refl _) _ _ hbel⟩
      case measure => simp [intOf]; omega
    · obtain rfl : n = k := by omega
      clear hk hlt
      go_wp2_with fail
      refine (aon_any _ _).mono ?_; rintro e w' ⟨rfl, rfl⟩
      go_wp2_with fail
      have hM := Mem.made wr id zb (.slice (some ⟨w.heap.size, 0, none⟩) n n)
      have hL' := hL.alloc (.cells (mem id zb (.slice (some ⟨w.heap.size, 0, none⟩) n n)) 38)
      have hb' : Below w.heap.size w (wr.alloc (.cells (mem id zb (.slice (some ⟨w.heap.size, 0, none⟩) n n)) 38)) := hbel.alloc (Nat.le_of_lt hsz) _
      have hg : w.heap.size < wr.heap.size := hsz
      simp only [mem] at hM hL' hb'
      generalize hwm : wr.alloc _ = wm at *
      clear hwm hL hbel hsz
      generalize wr.heap.size = g at *
      have HL : Hid (Lv wm w.heap.size n n id zs) := hL'
      have HM : Hid (Mem wm g id zb (.slice (some ⟨w.heap.size, 0, none⟩) n n)) := hM
      have HB : Hid (Below w.heap.size w wm) := hb'
      clear hL' hM hb'
      go_loop [10, 11] (fun t i => ∃ k : Nat, k ≤ n ∧ i = .int .i64 k ∧ t = .bool (joinB zb (zs.take k))) (fun _ i => n - (intOf i).toNat)
      case atStart => exact ⟨0, Nat.zero_le _, rfl, by simp [joinB]⟩
      case round =>
        obtain ⟨k, hk, rfl, rfl⟩ := hrel
        by_cases hlt : k < n
        · obtain rfl := HS.out (by omega)
          have hbB : b < w.heap.size := block_lt_of_cell (HC.out 0 (by omega))
          have hck : wm.cell? ⟨b, off + k, none⟩ = some (.int .u8 (zs.getD k 0)) := (HB.out.cell (by exact hbB)).trans (HC.out k hlt)
          have hjs := join_succ zb zs k (by omega)
          generalize hz : zs.getD k 0 = z at hck hjs
          have HJ : Hid (joinB zb (zs.take (k + 1)) = (joinB zb (zs.take k) && onB z)) := hjs
          clear hz hjs
          cases hob : onB z with
          | true =>
            go_wp2_with (go_at_call 5; refine (aon_any _ _).mono ?_; rintro e w' ⟨rfl, rfl⟩)
            go_round
            case rel => go_light; exact ⟨k + 1, by omega, by go_num, by rw [HJ.out, hob]; simp⟩
            case measure => simp [intOf]; omega
          | false =>
            go_wp2_with (go_at_call 5; refine (aon_any _ _).mono ?_; rintro e w' ⟨rfl, rfl⟩)
            go_round
            case rel => go_light; exact ⟨k + 1, by omega, by go_num, by rw [HJ.out, hob]; simp⟩
            case measure => simp [intOf]; omega
        · obtain rfl : n = k := by omega
          clear hk hlt
          go_wp2_with fail
          refine (joined_any g w.heap.size n zb (zs.take n) (by simp; omega) hn _ (.inr rfl) _ (HM.out.1 1 _ rfl) HM.out.2 (fun j hj => by have := HL.out.2 j hj 1 _ rfl; rw [this]; simp [hj])).mono ?_; rintro e w' ⟨rfl, rfl⟩
          have hMv := HM.out.2
          go_wp2_with (refine wpList_load_mid rfl 30 (.tmp 64) ?_ g 0 ?_ [.int .u64 id, .int .u8 zb, .int .u64 0, .bool false, .int .u64 0, .bool false, .int .u64 0, .bool false, .int .u64 0, .bool false] _ ?_ Yba.underlying30 ?_ ?_ ?_; exact rfl; exact rfl; exact HM.out.1; exact rfl; exact size30)
          clear hMv
          go_loopw [13] (fun i wq => ∃ k : Nat, k ≤ n ∧ i = .int .i64 k ∧ Lv wq w.heap.size n n id zs ∧ Mem wq g id zb (.slice (some ⟨w.heap.size, 0, none⟩) n n) ∧ Below w.heap.size w wq) (fun i _ => n - (intOf i).toNat)
          case atStart => exact ⟨0, Nat.zero_le _, rfl, HL.out, HM.out, HB.out⟩
          case round =>
            clear HL HM HB
            obtain ⟨k, hk, rfl, hL, hM, hB⟩ := hrel
            have HL : Hid (Lv wr w.heap.size n n id zs) := hL
            have HM : Hid (Mem wr g id zb (.slice (some ⟨w.heap.size, 0, none⟩) n n)) := hM
            have HB : Hid (Below w.heap.size w wr) := hB
            clear hL hM hB
            by_cases hlt : k < n
            · obtain rfl := HS.out (by omega)
              have hbB : b < w.heap.size := block_lt_of_cell (HC.out 0 (by omega))
              have hck : wr.cell? ⟨b, off + k, none⟩ = some (.int .u8 (zs.getD k 0)) := (HB.out.cell (by exact hbB)).trans (HC.out k hlt)
              have hr := HL.out.2 k hlt
              have hMv := HM.out.2
              generalize hz : zs.getD k 0 = z at hck hr
              clear hz
              have c0 : wr.cell? ⟨w.heap.size, k * 10, none⟩ = _ := hr 0 _ rfl
              have c1 := hr 1 _ rfl
              have c2 := hr 2 _ rfl
              have c3 := hr 3 _ rfl
              have c4 := hr 4 _ rfl
              have c5 := hr 5 _ rfl
              have c6 := hr 6 _ rfl
              have c7 := hr 7 _ rfl
              have c8 := hr 8 _ rfl
              have c9 := hr 9 _ rfl
              clear hr
              go_wp2
              go_quiet (fail)
              go_wp2
              go_roundw
              case rel => go_light; exact ⟨k + 1, by omega, by go_num, Lv.drewN HL.out _, Mem.drewN HM.out _, below_drewN HB.out _⟩
              case measure => simp [intOf]; omega
            · go_wp2
              go_ret
              exact ⟨rfl, HB.out⟩

theorem walk_long (id zb : Int) (a : Option Addr) (n c : Nat) (hn : 1048576 < n) (w : World) :
    Calls Yba.prog 3 #[.int .u64 id, .int .u8 zb, .slice a n c] w fun e w' => e = .returned (.bool true) ∧ Below w.heap.size w w' := by
  go_enter Yba.func3, Yba.ntmps3
  go_wp2
  go_ret
  exact ⟨rfl, Below.refl _ _⟩

set_option maxHeartbeats 800000 in
theorem walk_nil (id zb : Int) (w : World) :
    Calls Yba.prog 3 #[.int .u64 id, .int .u8 zb, .slice none 0 0] w fun e w' => e = .returned (.bool true) ∧ Below w.heap.size w w' := by
  have qn : ∀ (w : World) (a : Option Addr) (n c : Nat), (binOp .neq 23 (.slice a n c) (.slice none 0 0)).run Yba.prog w = .ok (.bool (!a.isNone)) w := fun w a n c => run_neq_slice_nil_any w _ _ a n c 0 0 Yba.underlying23
  have qe : ∀ (w : World) (a : Option Addr) (n c : Nat), (binOp .eql 23 (.slice a n c) (.slice none 0 0)).run Yba.prog w = .ok (.bool a.isNone) w := fun w a n c => Lib.run_eql_slice_nil w _ _ a n c 0 0 Yba.underlying23
  have qe' : ∀ (w : World) (a : Option Addr) (n c : Nat), (binOp .eql 24 (.slice a n c) (.slice none 0 0)).run Yba.prog w = .ok (.bool a.isNone) w := fun w a n c => Lib.run_eql_slice_nil w _ _ a n c 0 0 Yba.underlying24
  have hM := Mem.made w id zb (.slice none 0 0)
  have hb' : Below w.heap.size w (w.alloc (.cells (mem id zb (.slice none 0 0)) 38)) := (Below.refl _ _).alloc (Nat.le_refl _) _
  simp only [mem] at hM hb'
  have hj : joinB zb [] = onB zb := by simp [joinB]
  have HJ : Hid (joinB zb [] = onB zb) := hj
  clear hj
  go_enter Yba.func3, Yba.ntmps3
  go_wp2_with fail
  refine (aon_any _ _).mono ?_; rintro e w' ⟨rfl, rfl⟩
  go_wp2_with fail
  generalize hwm : w.alloc _ = wm at *
  clear hwm
  have HM : Hid (Mem wm w.heap.size id zb (.slice none 0 0)) := hM
  have HB : Hid (Below w.heap.size w wm) := hb'
  clear hM hb'
  refine wp_loop_rounds 1 ?_
  rw [rounds_succ]
  go_wp2_with fail
  refine (joined_any w.heap.size 0 0 zb [] rfl (by omega) none (.inl rfl) _ (HM.out.1 1 _ rfl) HM.out.2 (fun j hj => absurd hj (Nat.not_lt_zero _))).mono ?_
  rw [HJ.out]
  rintro e w' ⟨rfl, rfl⟩
  have hMv := HM.out.2
  go_wp2_with (refine wpList_load_mid rfl 30 (.tmp 64) ?_ w.heap.size 0 ?_ [.int .u64 id, .int .u8 zb, .int .u64 0, .bool false, .int .u64 0, .bool false, .int .u64 0, .bool false, .int .u64 0, .bool false] _ ?_ Yba.underlying30 ?_ ?_ ?_; exact rfl; exact rfl; exact HM.out.1; exact rfl; exact size30)
  refine wp_loop_rounds 1 ?_
  rw [rounds_succ]
  go_wp2
  go_ret
  exact ⟨rfl, HB.out⟩
end Go.Proofs.Ybulkfeps.lawS7805AWhole
