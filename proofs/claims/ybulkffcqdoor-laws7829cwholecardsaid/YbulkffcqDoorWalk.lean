import Derived.Test.YbulkffcqDoorBuild
import Derived.Deep.CutBlock
namespace Go.Proofs.YbulkffcqDoor
open Go.RowKit Go.Shelf
set_option linter.unusedVariables false

theorem info3 : (Ybad.prog.info? 3).map (fun i => (i.zero, i.size, i.bytes)) = some (some (.int .i64 0), 1, 8) := by kernel_rfl
/-- The numbers that were wanted. -/
def nums (L : List Nat) : List Value := L.map (fun (j : Nat) => Value.int .i64 (j : Int))
/-- Behind the second loop. -/
def Want (p : Par) (D : Nat) (w4 : World) (v t : Value) (wq : World) : Prop :=
  ∃ K : Nat, t = .int .i64 (K : Int) ∧ Ends p K ∧ Below D w4 wq ∧ wq.ownsRow D 3 1 v (p.L K).length (nums (p.L K))

theorem ownsRow_below {wq w' : World} {D e s n : Nat} {v : Value} {xs : List Value} (h : wq.ownsRow D e s v n xs) (hb : Below wq.heap.size wq w') : w'.ownsRow D e s v n xs := by
  refine ⟨h.1, ?_⟩
  rcases h.2 with h0 | ⟨g, cap, cur, rfl, hg, hh, h1, h2, h3, h4⟩
  · exact .inl h0
  · exact .inr ⟨g, cap, cur, rfl, hg, by rw [hb.block g (Array.getElem?_eq_some_iff.1 hh).1]; exact hh, h1, h2, h3, h4⟩

theorem zz_zero (r : Nat) (w : World) : Calls Ybad.prog 7 #[.int .u8 (r : Int), .int .u8 0] w fun e w' => e = .returned (.bool (cmp r 0)) ∧ Below w.heap.size w w' := zz_any r 0 w

theorem want_bel {wq w7 : World} {D n : Nat} {v : Value} {xs : List Value} {tmp : Obj} (row : wq.ownsRow D 3 1 v n xs) (hD : D ≤ wq.heap.size) (hgrow : (wq.alloc tmp).grownBy w7 v.ownBlock) : Below D wq w7 :=
  ((Below.refl D wq).alloc hD tmp).grown hgrow (by simp; omega) (fun j e => (row.lt j e).1)

/-- Between two rounds of the second loop. -/
structure Wk (D n stop own m : Nat) (md bf : Nat → Nat) (w4 : World) (k : Nat) (v t : Value) (wq : World) : Prop where
  t : t = .int .i64 (n : Int)
  bel : Below D w4 wq
  row : wq.ownsRow D 3 1 v (Lk own m md bf k).length (nums (Lk own m md bf k))
  go : goOn stop (Lk own m md bf k).length = true

theorem want_facts {B S n stop K own m k g' cap' : Nat} {L : List Nat} {md bf : Nat → Nat} {w4 wr wc w7 : World} {v : Value} {tmp : Obj} (hR : Res B S n stop K L md bf w4) (_hb : Below w4.heap.size w4 wr) (hb6 : Below w4.heap.size w4 wc)
    (row : wc.ownsRow w4.heap.size 3 1 v (Lk own m md bf k).length (nums (Lk own m md bf k))) (hD : w4.heap.size ≤ wc.heap.size)
    (hown' : w7.ownsRow w4.heap.size 3 1 (.slice (some ⟨g', 0, none⟩) ((Lk own m md bf k).length + 1) cap') ((Lk own m md bf k).length + 1) (nums (Lk own m md bf k) ++ [.int .i64 (k : Int)])) (hgrow : (wc.alloc tmp).grownBy w7 v.ownBlock) (hbk : blkAt own m md bf k = true) :
    w7.cell? ⟨S, 0, none⟩ = some (.int .i64 (stop : Int)) ∧ Hid (Below w4.heap.size w4 w7) ∧
    Hid (w7.ownsRow w4.heap.size 3 1 (.slice (some ⟨g', 0, none⟩) ((Lk own m md bf k).length + 1) cap') (Lk own m md bf (k + 1)).length (nums (Lk own m md bf (k + 1)))) := by
  have b7 : Below w4.heap.size w4 w7 := hb6.trans (want_bel row hD hgrow)
  refine ⟨(hR.later b7).st, b7, ?_⟩
  rw [Lk_yes hbk]
  show w7.ownsRow _ _ _ _ _ _
  simpa [nums] using hown'

theorem row_slice {W : World} {D : Nat} {v : Value} {L : List Nat} (h : W.ownsRow D 3 1 v L.length (nums L)) :
    ∃ a cap, v = .slice a L.length cap ∧ ∀ j, j < L.length → ∃ g, a = some ⟨g, 0, none⟩ ∧ W.cell? ⟨g, j, none⟩ = some (.int .i64 ((L.getD j 0 : Nat) : Int)) := by
  rcases h.2 with ⟨rfl, h0⟩ | ⟨g, cap, cur, rfl, _⟩
  · exact ⟨none, 0, by rw [h0], fun j hj => by omega⟩
  · refine ⟨some ⟨g, 0, none⟩, cap, rfl, fun j hj => ⟨g, rfl, ?_⟩⟩
    rw [h.cellAt j (by omega)]
    simp [nums, List.getD, hj]

theorem Ends.le {p : Par} {K : Nat} (h : Ends p K) : K ≤ p.N := by
  rcases h with ⟨rfl, _⟩ | ⟨k, hk, rfl, _⟩
  · exact Nat.le_refl _
  · omega

theorem Lk_at {own m n K j : Nat} {md bf : Nat → Nat} (hK : K ≤ n) (hj : j < (Lk own m md bf K).length) : (Lk own m md bf K).getD j 0 < n := by
  have : (Lk own m md bf K).getD j 0 ∈ Lk own m md bf K := by simp [List.getD, hj]
  have := Lk_mem this
  omega

set_option maxRecDepth 100000 in
set_option maxHeartbeats 8000000 in
theorem walk_c (a1 a2 : Option Addr) (b off n c b2 off2 n2 c2 : Nat) (ha1 : 0 < n → a1 = some ⟨b, off, none⟩) (ha2 : 0 < n2 → a2 = some ⟨b2, off2, none⟩) (zs bs : List Int) (ownS stopS : Nat) (m : Nat) (w : World) (hn : n ≤ 65536)
    (hc : ∀ k, k < n → w.cell? ⟨b, off + k, none⟩ = some (.int .u8 (nat8 zs k : Int)))
    (hc2 : ∀ k, k < n2 → w.cell? ⟨b2, off2 + k, none⟩ = some (.int .u8 (nat8 bs k : Int))) (hn2 : n2 ≤ 9223372036854775807) (own stop : Nat) (ho : (ownS : Int) % ((n : Int) + 1) = (own : Int)) (ho' : own ≤ n) (hs : (stopS : Int) % ((n : Int) + 2) = (stop : Int)) (hs' : stop ≤ n + 1) (hm : m ≤ 255) (hGl : Glob w) (hmd : ∀ j, nat8 zs j ≤ 255) (hbs : ∀ j, nat8 bs j ≤ 255) :
    Calls Ybad.prog 3 #[.slice a1 n c, .slice a2 n2 c2, .int .u64 (ownS : Int), .int .u8 (m : Int), .int .u64 (stopS : Int)] w fun e w' => e = .returned (.bool true) ∧ Below w.heap.size w w' := by
  have hB0 : 0 < w.heap.size := block_lt_of_cell (hGl 0 0 (by omega) (by omega))
  have HG : Hid (Glob w) := hGl
  have HA1 : Hid (0 < n → a1 = some ⟨b, off, none⟩) := ha1
  have HA2 : Hid (0 < n2 → a2 = some ⟨b2, off2, none⟩) := ha2
  clear ha1 ha2
  have HMD : Hid (∀ j, nat8 zs j ≤ 255) := hmd
  have HBD : Hid (∀ j, bfAt bs n2 j ≤ 255) := fun j => by unfold bfAt; split; exact hbs j; omega
  clear hGl hmd hbs
  have m24 := mk24 n hn
  have m25 := mk25 n hn
  have HC : Hid (∀ k, k < n → w.cell? ⟨b, off + k, none⟩ = some (.int .u8 (nat8 zs k : Int))) := hc
  have HC2 : Hid (∀ k, k < n2 → w.cell? ⟨b2, off2 + k, none⟩ = some (.int .u8 (nat8 bs k : Int))) := hc2
  clear hc hc2
  go_enter Ybad.func3, Ybad.ntmps3
  go_wp2_with fail
  have T0 := Blt.start w n (nat8 zs) (bfAt bs n2)
  have B0 : Below w.heap.size w ((((w.alloc (.cells #[.int .i64 (n : Int)] 3)).alloc (.cells (nils n) 26)).alloc (.cells (nils n) 36)).alloc (.cells #[.slice (some ⟨w.heap.size + 1 + 1, 0, none⟩) n n] 25)) :=
    ((((Below.refl _ _).alloc (Nat.le_refl _) _).alloc (by simp) _).alloc (by simp; omega) _).alloc (by simp; omega) _
  generalize (((w.alloc (.cells #[.int .i64 (n : Int)] 3)).alloc (.cells (nils n) 26)).alloc (.cells (nils n) 36)).alloc (.cells #[.slice (some ⟨w.heap.size + 1 + 1, 0, none⟩) n n] 25) = w1 at T0 B0 ⊢
  have HT0 : Hid (Blt w.heap.size n (nat8 zs) (bfAt bs n2) 0 w1) := T0
  have HB0 : Hid (Below w.heap.size w w1) := B0
  clear T0 B0 m24 m25
  go_loopw [14] (fun i wr => ∃ k : Nat, k ≤ n ∧ i = .int .i64 k ∧ Blt w.heap.size n (nat8 zs) (bfAt bs n2) k wr ∧ Below w.heap.size w wr) (fun i _ => n - (intOf i).toNat)
  case atStart => exact ⟨0, by omega, rfl, HT0.out, HB0.out⟩
  case round =>
    clear HT0 HB0
    obtain ⟨k, hk, rfl, hT, hB⟩ := hrel
    have HT : Hid (Blt w.heap.size n (nat8 zs) (bfAt bs n2) k wr) := hT
    have HB : Hid (Below w.heap.size w wr) := hB
    clear hT hB
    have hcn := HT.out.bn.cell
    by_cases hlt : k < n
    · obtain rfl := HA1.out (by omega)
      have hbB : b < w.heap.size := block_lt_of_cell (HC.out 0 (by omega))
      obtain ⟨u1, hu1⟩ := Option.isSome_iff_exists.1 (HT.out.t1 k hlt).1
      have hf1 := (HT.out.t1 k hlt).2
      rw [Nat.zero_add] at hu1 hf1
      have hs1 := block_lt_of_cell hu1
      have hxc : ∀ o, (wr.alloc o).cell? ⟨w.heap.size + 1, k, none⟩ = some u1 := fun o => by rw [World.cell?_alloc_lt _ _ _ hs1]; exact hu1
      have hxf : ∀ o, (wr.alloc o).frozen? ⟨w.heap.size + 1, k, none⟩ = false := fun o => by rw [World.frozen?_alloc_past _ _ _ hs1]; exact hf1
      clear hu1 hf1
      by_cases hb2 : k < n2
      · obtain rfl := HA2.out (by omega)
        have hbf : bfAt bs n2 k = nat8 bs k := by simp [bfAt, hb2]
        have HBF : Hid (bfAt bs n2 k = nat8 bs k) := hbf
        clear hbf
        have hb2B : b2 < w.heap.size := block_lt_of_cell (HC2.out k hb2)
        have hck2 : ∀ p o, ((wr.setCell ⟨w.heap.size + 1, k, none⟩ p).alloc o).cell? ⟨b2, off2 + k, none⟩ = some (.int .u8 (nat8 bs k : Int)) := fun p o =>
          (((HB.out.setCell (p := ⟨w.heap.size + 1, k, none⟩) (by simp) p).alloc (by have := HT.out.size; simp; omega) o).cell (p := ⟨b2, off2 + k, none⟩) hb2B).trans (HC2.out k hb2)
        go_wp2_with fail
        have M := HT.out.mid hlt #[.pointer none, .int .u64 (k : Int), .pointer none, .pointer none, .map none, .pointer none]
        have B2 := (HB.out.setCell (p := ⟨w.heap.size + 1, k, none⟩) (by simp) (.pointer (some ⟨wr.heap.size, 0, none⟩))).alloc (by have := HT.out.size; simp; omega) (.cells #[.pointer none, .int .u64 (k : Int), .pointer none, .pointer none, .map none, .pointer none] 34)
        clear hxc hxf HT HB hcn hck2
        generalize (wr.setCell ⟨w.heap.size + 1, k, none⟩ (.pointer (some ⟨wr.heap.size, 0, none⟩))).alloc (.cells #[.pointer none, .int .u64 (k : Int), .pointer none, .pointer none, .map none, .pointer none] 34) = w2 at M B2 ⊢
        have c1 := M.bg.cell
        have c1' : ∀ o, (w2.alloc o).cell? ⟨w.heap.size + 1 + 1 + 1, 0, none⟩ = _ := fun o => (M.bg.alloc o).cell
        have c2 := M.cx k (by omega)
        have c3 : w2.cell? ⟨b, off + k, none⟩ = some (.int .u8 (nat8 zs k : Int)) := (B2.cell (p := ⟨b, off + k, none⟩) hbB).trans (HC.out k hlt)
        obtain ⟨u2, hu2⟩ := Option.isSome_iff_exists.1 (M.t2 k hlt).1
        have hf2 := (M.t2 k hlt).2
        rw [Nat.zero_add] at hu2 hf2
        have hs2 := block_lt_of_cell hu2
        have hyc : ∀ o, (w2.alloc o).cell? ⟨w.heap.size + 1 + 1, k, none⟩ = some u2 := fun o => by rw [World.cell?_alloc_lt _ _ _ hs2]; exact hu2
        have hyf : ∀ o, (w2.alloc o).frozen? ⟨w.heap.size + 1 + 1, k, none⟩ = false := fun o => by rw [World.frozen?_alloc_past _ _ _ hs2]; exact hf2
        have HM : Hid (Mid w.heap.size n (nat8 zs) (bfAt bs n2) k w2) := M
        have HB : Hid (Below w.heap.size w w2) := B2
        clear hu2 hf2 M B2
        go_region
        all_goals
          go_wp2
          go_roundw
          case rel => go_light; exact ⟨k + 1, by omega, by go_num, (HM.out.next hlt _ rfl rfl (by rw [HBF.out]; rfl)).drew, ((HB.out.setCell (p := ⟨w.heap.size + 1 + 1, k, none⟩) (by simp; omega) _).alloc (by have := HM.out.size; simp; omega) _).drew⟩
          case measure => simp [intOf]; omega
      · have hbf : bfAt bs n2 k = 0 := by simp [bfAt, hb2]
        have HBF : Hid (bfAt bs n2 k = 0) := hbf
        clear hbf
        go_wp2_with fail
        have M := HT.out.mid hlt #[.pointer none, .int .u64 (k : Int), .pointer none, .pointer none, .map none, .pointer none]
        have B2 := (HB.out.setCell (p := ⟨w.heap.size + 1, k, none⟩) (by simp) (.pointer (some ⟨wr.heap.size, 0, none⟩))).alloc (by have := HT.out.size; simp; omega) (.cells #[.pointer none, .int .u64 (k : Int), .pointer none, .pointer none, .map none, .pointer none] 34)
        clear hxc hxf HT HB hcn 
        generalize (wr.setCell ⟨w.heap.size + 1, k, none⟩ (.pointer (some ⟨wr.heap.size, 0, none⟩))).alloc (.cells #[.pointer none, .int .u64 (k : Int), .pointer none, .pointer none, .map none, .pointer none] 34) = w2 at M B2 ⊢
        have c1 := M.bg.cell
        have c1' : ∀ o, (w2.alloc o).cell? ⟨w.heap.size + 1 + 1 + 1, 0, none⟩ = _ := fun o => (M.bg.alloc o).cell
        have c2 := M.cx k (by omega)
        have c3 : w2.cell? ⟨b, off + k, none⟩ = some (.int .u8 (nat8 zs k : Int)) := (B2.cell (p := ⟨b, off + k, none⟩) hbB).trans (HC.out k hlt)
        obtain ⟨u2, hu2⟩ := Option.isSome_iff_exists.1 (M.t2 k hlt).1
        have hf2 := (M.t2 k hlt).2
        rw [Nat.zero_add] at hu2 hf2
        have hs2 := block_lt_of_cell hu2
        have hyc : ∀ o, (w2.alloc o).cell? ⟨w.heap.size + 1 + 1, k, none⟩ = some u2 := fun o => by rw [World.cell?_alloc_lt _ _ _ hs2]; exact hu2
        have hyf : ∀ o, (w2.alloc o).frozen? ⟨w.heap.size + 1 + 1, k, none⟩ = false := fun o => by rw [World.frozen?_alloc_past _ _ _ hs2]; exact hf2
        have HM : Hid (Mid w.heap.size n (nat8 zs) (bfAt bs n2) k w2) := M
        have HB : Hid (Below w.heap.size w w2) := B2
        clear hu2 hf2 M B2
        go_region
        all_goals
          go_wp2
          go_roundw
          case rel => go_light; exact ⟨k + 1, by omega, by go_num, (HM.out.next hlt _ rfl rfl (by rw [HBF.out]; rfl)).drew, ((HB.out.setCell (p := ⟨w.heap.size + 1 + 1, k, none⟩) (by simp; omega) _).alloc (by have := HM.out.size; simp; omega) _).drew⟩
          case measure => simp [intOf]; omega
    · obtain rfl : n = k := by omega
      clear hk hlt
      have hcg := HT.out.bg.cell
      go_upto_if 81 with (fail)
      go_cut [17] from 73 (fun s17 wx => s17 = .pointer (owP w.heap.size n own) ∧ wx = wr)
      case first =>
        by_cases hown : own < n
        · have hgo := HT.out.cg own hown
          go_wp2
          go_meet
          case rel => go_light; exact ⟨by simp [owP, hown], rfl⟩
        · go_wp2
          go_meet
          case rel => go_light; exact ⟨by simp [owP, hown], rfl⟩
      case rest =>
        obtain ⟨rfl, rfl⟩ := hcut
        go_wp2_with fail
        refine (hb_any _ _ _ _ _ _).mono ?_
        rintro e w3 ⟨rfl, rfl⟩
        go_wp2_with fail
        refine (hold_here (own := own) HT.out (fun r g hr hg => (HB.out.cell (p := ⟨0, r * 7 + g, none⟩) hB0).trans (HG.out r g hr hg)) hB0 hn hs' hm HMD.out HBD.out).mono ?_
        rintro e w4 ⟨rfl, hA⟩
        obtain ⟨K, hE, hR, hBel⟩ := res_of HT.out HB.out hA
        clear hA HT HB
        generalize wc.heap.size = S at *
        have HE : Hid (Ends (mkPar w.heap.size S n own m stop (nat8 zs) (bfAt bs n2)) K) := hE
        have HR : Hid (Res w.heap.size S n stop K (Lk own m (nat8 zs) (bfAt bs n2) K) (nat8 zs) (bfAt bs n2) w4) := hR
        have HBel : Hid (Below w.heap.size w w4) := hBel
        have c1 := hR.bn
        clear hE hR hBel hcn hcg
        go_upto_block 2 with (fail)
        go_cut [23, 24] from 102 (fun v t wq => Want (mkPar w.heap.size S n own m stop (nat8 zs) (bfAt bs n2)) w4.heap.size w4 v t wq)
        case first =>
          go_wp2_with fail
          go_loopw [23, 24, 26] (fun v t i wq => ∃ k : Nat, k ≤ n ∧ i = .int .i64 k ∧ Wk w4.heap.size n stop own m (nat8 zs) (bfAt bs n2) w4 k v t wq) (fun _ _ i _ => n - (intOf i).toNat)
          case atStart => exact ⟨0, by omega, rfl, rfl, Below.refl _ _, World.ownsRow_nil _ _ _ _, goOn_zero (mkPar w.heap.size S n own m stop (nat8 zs) (bfAt bs n2))⟩
          case round =>
            obtain ⟨k, hk, rfl, hW⟩ := hrel
            obtain rfl := hW.t
            have HW : Hid (Wk w4.heap.size n stop own m (nat8 zs) (bfAt bs n2) w4 k u23 (.int .i64 (n : Int)) wr) := hW
            clear hW c1
            have c1 := (HR.out.later HW.out.bel).bn
            by_cases hlt : k < n
            · obtain rfl := HA1.out (by omega)
              by_cases hown : k = own
              · have hbk : blkAt own m (nat8 zs) (bfAt bs n2) k = false := by simp [blkAt, hown]
                have HBK : Hid (blkAt own m (nat8 zs) (bfAt bs n2) k = false) := hbk
                have hte : ((k : Int) == (own : Int)) = true := by rw [beq_iff_eq]; omega
                have HO : Hid (k = own) := hown
                clear hbk hown
                go_wp2
                go_roundw
                case rel => go_light; exact ⟨k + 1, by omega, by go_num, rfl, HW.out.bel, by rw [Lk_no HBK.out]; exact HW.out.row, by rw [Lk_no HBK.out]; exact HW.out.go⟩
                case measure => simp [intOf]; omega
              · have hte : ((k : Int) == (own : Int)) = false := by rw [beq_eq_false_iff_ne]; omega
                have HO : Hid (¬ k = own) := hown
                have hbB : b < w.heap.size := block_lt_of_cell (HC.out 0 (by omega))
                have hB2 : Below w.heap.size w wr := HBel.out.trans (HW.out.bel.mono HBel.out.size)
                have hck : wr.cell? ⟨b, off + k, none⟩ = some (.int .u8 (nat8 zs k : Int)) := (hB2.cell (p := ⟨b, off + k, none⟩) hbB).trans (HC.out k hlt)
                have HB2 : Hid (Below w.heap.size w wr) := hB2
                clear hown hB2
                go_upto_if 113 with (fail)
                go_cut [27] from 102 to 144 (fun s27 wx => s27 = .int .u8 (bfAt bs n2 k : Int) ∧ wx = wr)
                case first =>
                  by_cases hb2 : k < n2
                  · obtain rfl := HA2.out (by omega)
                    have hbf : bfAt bs n2 k = nat8 bs k := by simp [bfAt, hb2]
                    have HBF : Hid (bfAt bs n2 k = nat8 bs k) := hbf
                    clear hbf
                    have hb2B : b2 < w.heap.size := block_lt_of_cell (HC2.out k hb2)
                    have hck2 : wr.cell? ⟨b2, off2 + k, none⟩ = some (.int .u8 (nat8 bs k : Int)) := (HB2.out.cell (p := ⟨b2, off2 + k, none⟩) hb2B).trans (HC2.out k hb2)
                    go_wp2
                    go_meet
                    case rel => go_light; exact ⟨by rw [HBF.out], rfl⟩
                  · have hbf : bfAt bs n2 k = 0 := by simp [bfAt, hb2]
                    have HBF : Hid (bfAt bs n2 k = 0) := hbf
                    clear hbf
                    go_wp2
                    go_meet
                    case rel => go_light; exact ⟨by rw [HBF.out]; rfl, rfl⟩
                case rest =>
                  obtain ⟨rfl, rfl⟩ := hcut
                  go_upto_region 34 with (fail)
                  go_cut [130] from 102 to 144 (fun s130 wx => s130 = .bool (blkB m (nat8 zs k) (bfAt bs n2 k)) ∧ Below wc.heap.size wc wx)
                  case first =>
                    cases h1 : cmp m (nat8 zs k) with
                    | false =>
                      go_wp2_with fail
                      refine (zz_any m (nat8 zs k) _).mono ?_
                      rw [h1]
                      rintro e w5 ⟨rfl, hb5⟩
                      go_wp2
                      go_meet
                      case rel => go_light; exact ⟨by simp [blkB, h1], hb5⟩
                    | true =>
                      go_wp2_with fail
                      refine (zz_any m (nat8 zs k) _).mono ?_
                      rw [h1]
                      rintro e w5 ⟨rfl, hb5⟩
                      go_wp2_with fail
                      refine (zz_any m (bfAt bs n2 k) _).mono ?_
                      rintro e w6 ⟨rfl, hb6⟩
                      go_wp2
                      go_meet
                      case rel => go_light; exact ⟨by simp [blkB, h1], hb5.trans (hb6.mono hb5.size)⟩
                  case rest =>
                    obtain ⟨rfl, hb6⟩ := hcut
                    have HB6 : Hid (Below w4.heap.size w4 wc) := HW.out.bel.trans (hb6.mono HW.out.bel.size)
                    have HR6 : Hid (wc.ownsRow w4.heap.size 3 1 u23 (Lk own m (nat8 zs) (bfAt bs n2) k).length (nums (Lk own m (nat8 zs) (bfAt bs n2) k))) := ownsRow_below HW.out.row hb6
                    have hD6 : w4.heap.size ≤ wc.heap.size := HB6.out.size
                    have hLk := Lk_len own m (nat8 zs) (bfAt bs n2) k
                    clear hb6 c1 hck
                    cases hbb : blkB m (nat8 zs k) (bfAt bs n2 k) with
                    | false =>
                      have hbk : blkAt own m (nat8 zs) (bfAt bs n2) k = false := by simp [blkAt, hbb]
                      have HBK : Hid (blkAt own m (nat8 zs) (bfAt bs n2) k = false) := hbk
                      clear hbk hbb
                      go_wp2
                      go_roundw
                      case rel => go_light; exact ⟨k + 1, by omega, by go_num, rfl, HB6.out, by rw [Lk_no HBK.out]; exact HR6.out, by rw [Lk_no HBK.out]; exact HW.out.go⟩
                      case measure => simp [intOf]; omega
                    | true =>
                      have hbk : blkAt own m (nat8 zs) (bfAt bs n2) k = true := by simp [blkAt, hbb, HO.out]
                      have HBK : Hid (blkAt own m (nat8 zs) (bfAt bs n2) k = true) := hbk
                      clear hbk hbb
                      obtain ⟨i3, hi, hz0, hz1, hz2⟩ := info_parts info3
                      have H30 : Hid (Ybad.prog.info? 3 = some i3) := hi
                      have H31 : Hid (i3.zero = some (.int .i64 0)) := hz0
                      have H32 : Hid (i3.size = 1) := hz1
                      have H33 : Hid (i3.bytes = 8) := hz2
                      clear hi hz0 hz1 hz2
                      have hgo := HW.out.go
                      rw [goOn_true] at hgo
                      by_cases hs0 : stop = 0
                      · have hs1 : decide ((0 : Int) < (stop : Int)) = false := by simp; omega
                        have HS0 : Hid (stop = 0) := hs0
                        have hs3 : stop < 1 := by omega
                        clear hgo hs0
                        go_wp2_with (at_builtin; refine wpList_append_own _ rfl (.tmp 131) (.tmp 133) 48 rfl w4.heap.size 3 i3 (.int .i64 0) 1 8 Ybad.underlying48 H30.out H31.out H32.out H33.out rfl (by decide) _ _ _ rfl (HR6.out.alloc _) ⟨wc.heap.size, 0, none⟩ 1 1 [.int .i64 (k : Int)] rfl rfl (cell_one_new _ _ _) (by simp [Value.oneCell']) (by unfold maxLen; omega) (by omega) (by simp; omega) ?_; intro v' w7 hown' hgrow _; obtain ⟨g', cap', rfl⟩ := ownsRow_succ hown'; obtain ⟨hst7, HB7, HR7⟩ := want_facts HR.out HW.out.bel HB6.out HR6.out hD6 hown' hgrow HBK.out; clear hown' hgrow)
                        go_roundw
                        case rel => go_light; exact ⟨k + 1, by omega, by go_num, rfl, HB7.out, HR7.out, by rw [goOn_true]; exact .inl HS0.out⟩
                        case measure => simp [intOf]; omega
                      · have hs1 : decide ((0 : Int) < (stop : Int)) = true := by simp; omega
                        by_cases hse : (Lk own m (nat8 zs) (bfAt bs n2) k).length + 1 = stop
                        · have hs2 : ((((Lk own m (nat8 zs) (bfAt bs n2) k).length : Int) + 1) == (stop : Int)) = true := by rw [beq_iff_eq]; omega
                          have HSE : Hid ((Lk own m (nat8 zs) (bfAt bs n2) k).length + 1 = stop) := hse
                          clear hse hgo
                          go_wp2_with (at_builtin; refine wpList_append_own _ rfl (.tmp 131) (.tmp 133) 48 rfl w4.heap.size 3 i3 (.int .i64 0) 1 8 Ybad.underlying48 H30.out H31.out H32.out H33.out rfl (by decide) _ _ _ rfl (HR6.out.alloc _) ⟨wc.heap.size, 0, none⟩ 1 1 [.int .i64 (k : Int)] rfl rfl (cell_one_new _ _ _) (by simp [Value.oneCell']) (by unfold maxLen; omega) (by omega) (by simp; omega) ?_; intro v' w7 hown' hgrow _; obtain ⟨g', cap', rfl⟩ := ownsRow_succ hown'; obtain ⟨hst7, HB7, HR7⟩ := want_facts HR.out HW.out.bel HB6.out HR6.out hD6 hown' hgrow HBK.out; clear hown' hgrow)
                          go_meet
                          case rel => go_light; exact ⟨k + 1, by go_num, .inr ⟨k, hlt, rfl, HW.out.go, by rw [goOn_false]; simp only [Par.L, mkPar]; rw [Lk_yes HBK.out]; have := HSE.out; simp; omega⟩, HB7.out, HR7.out⟩
                        · have hs2 : ((((Lk own m (nat8 zs) (bfAt bs n2) k).length : Int) + 1) == (stop : Int)) = false := by rw [beq_eq_false_iff_ne]; omega
                          have HSE : Hid (¬ (Lk own m (nat8 zs) (bfAt bs n2) k).length + 1 = stop) := hse
                          have HGO : Hid (stop = 0 ∨ (Lk own m (nat8 zs) (bfAt bs n2) k).length < stop) := hgo
                          clear hse hgo
                          go_wp2_with (at_builtin; refine wpList_append_own _ rfl (.tmp 131) (.tmp 133) 48 rfl w4.heap.size 3 i3 (.int .i64 0) 1 8 Ybad.underlying48 H30.out H31.out H32.out H33.out rfl (by decide) _ _ _ rfl (HR6.out.alloc _) ⟨wc.heap.size, 0, none⟩ 1 1 [.int .i64 (k : Int)] rfl rfl (cell_one_new _ _ _) (by simp [Value.oneCell']) (by unfold maxLen; omega) (by omega) (by simp; omega) ?_; intro v' w7 hown' hgrow _; obtain ⟨g', cap', rfl⟩ := ownsRow_succ hown'; obtain ⟨hst7, HB7, HR7⟩ := want_facts HR.out HW.out.bel HB6.out HR6.out hD6 hown' hgrow HBK.out; clear hown' hgrow)
                          go_roundw
                          case rel => go_light; exact ⟨k + 1, by omega, by go_num, rfl, HB7.out, HR7.out, by rw [goOn_true, Lk_yes HBK.out]; have := HSE.out; have := HGO.out; simp; omega⟩
                          case measure => simp [intOf]; omega
            · obtain rfl : n = k := by omega
              go_wp2
              go_meet
              case rel => go_light; exact ⟨n, rfl, .inl ⟨rfl, HW.out.go⟩, HW.out.bel, HW.out.row⟩
        case rest =>
          obtain ⟨K', rfl, hE', hb8, hrow8⟩ := hcut
          obtain rfl : K = K' := HE.out.unique hE'
          have hrow9 : wc.ownsRow w4.heap.size 3 1 u23 (Lk own m (nat8 zs) (bfAt bs n2) K).length (nums (Lk own m (nat8 zs) (bfAt bs n2) K)) := hrow8
          obtain ⟨a8, cap8, rfl, h8⟩ := row_slice hrow9
          have HR8 := HR.out.later hb8
          obtain ⟨a9, cap9, c9, h9⟩ := HR8.out
          have HLn : Hid (∀ j, j < (Lk own m (nat8 zs) (bfAt bs n2) K).length → (Lk own m (nat8 zs) (bfAt bs n2) K).getD j 0 < n) := fun j hj => Lk_at (HE.out.le) hj
          have HB8 : Hid (Below w.heap.size w wc) := HBel.out.trans (hb8.mono HBel.out.size)
          have HRR : Hid (Res w.heap.size S n stop K (Lk own m (nat8 zs) (bfAt bs n2) K) (nat8 zs) (bfAt bs n2) wc) := HR8
          have c2 := HR8.pl
          have hKn : K ≤ n := HE.out.le
          clear hE' hb8 hrow8 hrow9 HR8 c1 HR HE HBel
          have hLl := Lk_len own m (nat8 zs) (bfAt bs n2) K
          have HL8 : Hid (∀ j, j < (Lk own m (nat8 zs) (bfAt bs n2) K).length → ∃ g, a8 = some ⟨g, 0, none⟩ ∧ wc.cell? ⟨g, j, none⟩ = some (.int .i64 (((Lk own m (nat8 zs) (bfAt bs n2) K).getD j 0 : Nat) : Int))) := h8
          have HL9 : Hid (∀ j, j < (Lk own m (nat8 zs) (bfAt bs n2) K).length → ∃ g, a9 = some ⟨g, 0, none⟩ ∧ wc.cell? ⟨g, j, none⟩ = some (.pointer (some ⟨w.heap.size + 4 + 2 * ((Lk own m (nat8 zs) (bfAt bs n2) K).getD j 0), 0, none⟩))) := h9
          clear h8 h9
          generalize Lk own m (nat8 zs) (bfAt bs n2) K = L at *
          have hkk : ((K : Int) != (K : Int)) = false := by simp
          have hll : ((L.length : Int) != (L.length : Int)) = false := by simp
          go_wp2_with fail
          clear hkk hll c2
          have qn : ∀ (x : Addr) (W : World), (binOp .neq 26 (.pointer (some x)) (.pointer (some x))).run Ybad.prog W = .ok (.bool false) W := fun x W => by
            obtain ⟨i34, hi⟩ := Option.isSome_iff_exists.1 (show (Ybad.prog.info? 34).isSome = true by kernel_rfl)
            exact run_neq_ptr_same W x Ybad.underlying26 hi
          go_loopw [28] (fun j wz => ∃ k : Nat, k ≤ L.length ∧ j = .int .i64 k ∧ Below wc.heap.size wc wz) (fun j _ => L.length - (intOf j).toNat)
          case atStart => exact ⟨0, by omega, rfl, Below.refl _ _⟩
          case round =>
            obtain ⟨k, hk, rfl, hbz⟩ := hrel
            have HBZ : Hid (Below wc.heap.size wc wr) := hbz
            clear hbz
            by_cases hlt : k < L.length
            · obtain ⟨g8, rfl, hg8⟩ := HL8.out k hlt
              obtain ⟨g9, rfl, hg9⟩ := HL9.out k hlt
              have hq := HLn.out k hlt
              have d1 := cell_later HBZ.out c9
              have d2 := cell_later HBZ.out hg8
              have d3 := cell_later HBZ.out hg9
              have d4 := cell_later HBZ.out (HRR.out.cx _ hq)
              clear c9 hg8 hg9 HL8 HL9
              generalize L.getD k 0 = q at hq d2 d3 d4
              go_wp2
              go_quiet (fail)
              go_wp2
              go_roundw
              case rel => go_light; exact ⟨k + 1, by omega, by go_num, below_drewN HBZ.out _⟩
              case measure => simp [intOf]; omega
            · have c1 := cell_later HBZ.out HRR.out.bn
              clear c9 HL8 HL9 HLn
              go_wp2_with fail
              clear hk hlt c1
              go_loopw [29] (fun j wz => ∃ k : Nat, k ≤ n ∧ j = .int .i64 k ∧ Below wc.heap.size wc wz) (fun j _ => n - (intOf j).toNat)
              case atStart => exact ⟨0, by omega, rfl, HBZ.out⟩
              case round =>
                clear HBZ
                obtain ⟨k, hk, rfl, hbz⟩ := hrel
                have HBZ : Hid (Below wc.heap.size wc wr) := hbz
                clear hbz
                have c1 := cell_later HBZ.out HRR.out.bn
                by_cases hlt : k < n
                · obtain rfl := HA1.out (by omega)
                  have hB2 : Below w.heap.size w wr := HB8.out.trans (HBZ.out.mono HB8.out.size)
                  have hbB : b < w.heap.size := block_lt_of_cell (HC.out 0 (by omega))
                  have HB2 : Hid (Below w.heap.size w wr) := hB2
                  clear hB2
                  go_upto_if 181 with (fail)
                  go_cut [30] from 173 to 222 (fun s30 wx => s30 = .int .u8 (bfAt bs n2 k : Int) ∧ wx = wr)
                  case first =>
                    by_cases hb2 : k < n2
                    · obtain rfl := HA2.out (by omega)
                      have hbf : bfAt bs n2 k = nat8 bs k := by simp [bfAt, hb2]
                      have HBF : Hid (bfAt bs n2 k = nat8 bs k) := hbf
                      clear hbf
                      have hb2B : b2 < w.heap.size := block_lt_of_cell (HC2.out k hb2)
                      have hck2 : wr.cell? ⟨b2, off2 + k, none⟩ = some (.int .u8 (nat8 bs k : Int)) := (HB2.out.cell (p := ⟨b2, off2 + k, none⟩) hb2B).trans (HC2.out k hb2)
                      go_wp2
                      go_meet
                      case rel => go_light; exact ⟨by rw [HBF.out], rfl⟩
                    · have hbf : bfAt bs n2 k = 0 := by simp [bfAt, hb2]
                      have HBF : Hid (bfAt bs n2 k = 0) := hbf
                      clear hbf
                      go_wp2
                      go_meet
                      case rel => go_light; exact ⟨by rw [HBF.out]; rfl, rfl⟩
                  case rest =>
                    obtain ⟨rfl, hwx⟩ := hcut
                    subst hwx
                    have d1 := cell_later HBZ.out HRR.out.bg
                    have d2 := cell_later HBZ.out (HRR.out.cg k hlt)
                    have d3 := cell_later HBZ.out (HRR.out.g1 k hlt)
                    have d4 := cell_later HBZ.out (HRR.out.cx k hlt)
                    have d5 := cell_later HBZ.out (HRR.out.g5 k hlt)
                    have d6 := cell_later HBZ.out (HRR.out.g6 k hlt)
                    have d7 := (HB2.out.cell (p := ⟨b, off + k, none⟩) hbB).trans (HC.out k hlt)
                    clear c1
                    generalize nat8 zs k = x5 at d5 d7
                    generalize bfAt bs n2 k = x6 at d6 ⊢
                    go_wp2
                    go_quiet (fail)
                    go_wp2
                    go_roundw
                    case rel => go_light; exact ⟨k + 1, by omega, by go_num, below_drewN HBZ.out _⟩
                    case measure => simp [intOf]; omega
                · go_wp2
                  go_ret
                  exact ⟨rfl, HB8.out.trans (HBZ.out.mono HB8.out.size)⟩

set_option maxRecDepth 100000 in
theorem walk_big (a1 : Option Addr) (n c : Nat) (v2 : Value) (o s m : Int) (hn : 65536 < n) (hn' : n ≤ 9223372036854775807) (w : World) :
    Calls Ybad.prog 3 #[.slice a1 n c, v2, .int .u64 o, .int .u8 m, .int .u64 s] w fun e w' => e = .returned (.bool true) ∧ Below w.heap.size w w' := by
  go_enter Ybad.func3, Ybad.ntmps3
  go_wp2
  go_ret
  exact ⟨rfl, (Below.refl _ _).alloc (Nat.le_refl _) _⟩
end Go.Proofs.YbulkffcqDoor
