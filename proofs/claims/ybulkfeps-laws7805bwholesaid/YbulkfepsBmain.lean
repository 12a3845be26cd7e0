/-
  THE MAIN WALK: the law returns true at every input with at most 4096 steps and 4096 queries.
-/
import Derived.Test.YbulkfepsBeq
import Derived.BigRegion
import Derived.Deep.Cut
import Derived.Deep.CutRange
import Derived.Deep.DeepCutAuto
namespace Go.Proofs.Ybulkfeps.lawS7805BWhole
open Go.ChangeShapes Go.WideShapes Go.ChangeAt Go.RowKit
set_option linter.unusedVariables false

theorem bool_eq {a b : Bool} {P : Prop} (h1 : a = true ↔ P) (h2 : b = true ↔ P) : a = b := by
  cases a <;> cases b <;> simp_all

theorem tmod3 (D : Int) : -2 ≤ D.tmod 3 ∧ D.tmod 3 ≤ 2 := by
  cases D with
  | ofNat m => show -2 ≤ ((m % 3 : Nat) : Int) ∧ ((m % 3 : Nat) : Int) ≤ 2; omega
  | negSucc m => show -2 ≤ -(((m + 1) % 3 : Nat) : Int) ∧ -(((m + 1) % 3 : Nat) : Int) ≤ 2; omega

set_option maxRecDepth 100000 in
set_option maxHeartbeats 40000000 in
theorem main_any (w : World) (n a b : Nat) (ov bv qv : Value) (ops : List (Nat × Nat × Int)) (bs : List Bool) (qs : List (Nat × Nat))
    (hn : n < 256) (ha : a < 256) (hb : b < 256) (hO : OpsIn w w.heap.size ov ops) (hB : BoolRow w w.heap.size bv bs) (hQ : QsIn w w.heap.size qv qs) (hol : ops.length ≤ 4096) (hql : qs.length ≤ 4096) :
    Calls Yba.prog 4 #[.int .u8 (n : Int), ov, bv, .int .u8 (a : Int), .int .u8 (b : Int), qv] w fun e w' => e = .returned (.bool true) ∧ Below w.heap.size w w' := by
  obtain ⟨aoO, cO, rfl, hO1, hO2⟩ := hO
  obtain ⟨aoB, cB, rfl, hB2⟩ := hB
  obtain ⟨aoQ, cQ, rfl, hQ1, hQ2⟩ := hQ
  obtain ⟨nn, hnn⟩ : ∃ nn, nn = n % 40 + 1 := ⟨_, rfl⟩
  have hnn1 : 1 ≤ nn := by omega
  have hnn40 : nn ≤ 40 := by omega
  have HO1 : Hid _ := hO1
  have HO2 : Hid _ := hO2
  have HB : Hid (BoolRow w w.heap.size (.slice aoB bs.length cB) bs) := ⟨aoB, cB, rfl, hB2⟩
  have HQ1 : Hid _ := hQ1
  have HQ2 : Hid _ := hQ2
  have HNN : Hid (nn = n % 40 + 1) := hnn
  have m1 := mkRows nn (by omega)
  have m2 := mkInts nn (by omega)
  clear hO1 hO2 hB2 hQ1 hQ2
  have hnI : (n : Int) % 40 + 1 = (nn : Int) := by omega
  clear hnn
  go_enter Yba.func4, Yba.ntmps4
  go_wp2_with fail
  refine (new_any (w.alloc (.cells #[.slice aoB bs.length cB] 43)) nn hnn40).mono ?_
  rintro e w1 ⟨Bg, Ba, S, rfl, hG, hS, hSn, hlow⟩
  have hbk : Blk w1 w.heap.size 43 1 (fun _ => .slice aoB bs.length cB) := (show Blk (w.alloc (.cells #[.slice aoB bs.length cB] 43)) w.heap.size 43 1 (fun _ => .slice aoB bs.length cB) from heap_alloc_new w _).frame (hlow.block _ (by simp))
  have hl0 : Below w.heap.size w w1 := ((Below.refl _ _).alloc (Nat.le_refl _) _).trans (hlow.mono (by simp))
  have hbs : (w.alloc (.cells #[.slice aoB bs.length cB] 43)).heap.size = w.heap.size + 1 := by simp
  rw [hbs] at hG hS
  have HG : Hid (GS w1 (w.heap.size + 1) Bg Ba nn S nilv [] (fun _ => nilv) (fun _ => []) (fun _ _ => 0)) := hG
  have HS : Hid ((∀ t, t < 2 → Blk w1 (S t) 3 nn (fun _ => .int .i64 0) ∧ w.heap.size + 1 ≤ S t) ∧ S 0 ≠ S 1) := ⟨hS, hSn⟩
  have HBK : Hid (Blk w1 w.heap.size 43 1 (fun _ => .slice aoB bs.length cB)) := hbk
  have HL0 : Hid (Below w.heap.size w w1) := hl0
  clear hG hS hSn hlow hbk hl0 hbs
  have HMK : Hid (MK w1 w1.heap.size nn 0 (w1.alloc (.cells (arrOf (fun _ => .slice none 0 0) nn) 48))) := MK.start w1 nn
  go_wp2_with fail
  generalize hw2 : w1.alloc (.cells (arrOf (fun _ => .slice none 0 0) nn) 48) = w2 at *
  clear hw2
  go_loopw [58] (fun i wr => ∃ k : Nat, k ≤ nn ∧ i = .int .i64 (k : Int) ∧ MK w1 w1.heap.size nn k wr) (fun i _ => nn - (intOf i).toNat)
  case atStart => exact ⟨0, Nat.zero_le _, rfl, HMK.out⟩
  case round =>
    clear HMK
    obtain ⟨k, hk, rfl, hM⟩ := hrel
    have HMK : Hid (MK w1 w1.heap.size nn k wr) := hM
    clear hM
    by_cases hlt : k < nn
    · have c1 := (HMK.out.outer.alloc (.cells (arrOf (fun _ => .int .i64 0) nn) 3)).cell hlt
      have c2 := (HMK.out.outer.alloc (.cells (arrOf (fun _ => .int .i64 0) nn) 3)).frozen k
      rw [if_neg (Nat.lt_irrefl _)] at c1
      have HM' := HMK.out.step
      have HM2 : Hid _ := HM'
      clear HM'
      go_wp2_with fail
      go_roundw
      case rel => go_light; exact ⟨k + 1, by omega, by go_num, HM2.out⟩
      case measure => simp [intOf]; omega
    · obtain rfl : k = nn := by omega
      have HOS : Hid (OS w (w.heap.size + 1) w.heap.size Bg Ba w1.heap.size k (.slice aoB bs.length cB) S wr nilv [] (fun _ => nilv) (fun _ => []) (fun _ _ => 0) (fun _ _ => 0)) := OS.start HG.out HS.out HBK.out HL0.out HMK.out
      clear HG HS HBK HL0 HMK hk hlt m1 m2
      generalize hC : w1.heap.size = C at *
      clear hC
      go_wp2_with fail
      go_loopw [69] (fun i wr => ∃ k' : Nat, k' ≤ ops.length ∧ i = .int .i64 (k' : Int) ∧ ∃ cutv cutL av L c, OS w (w.heap.size + 1) w.heap.size Bg Ba C k (.slice aoB bs.length cB) S wr cutv cutL av L c c ∧ (∀ x y, c x y = c y x) ∧ (∀ x y, -(2 * k' : Int) ≤ c x y ∧ c x y ≤ 2 * k') ∧ cutL.length ≤ k') (fun i _ => ops.length - (intOf i).toNat)
      case atStart => exact ⟨0, Nat.zero_le _, rfl, _, _, _, _, _, HOS.out, fun _ _ => rfl, fun _ _ => by simp, Nat.zero_le _⟩
      case round =>
        clear HOS
        obtain ⟨j, hj, rfl, cutv, cutL, av, L, c, hOS, hsym, hbd, hcl⟩ := hrel
        have HOS : Hid (OS w (w.heap.size + 1) w.heap.size Bg Ba C k (.slice aoB bs.length cB) S wr cutv cutL av L c c) := hOS
        have HSY : Hid (∀ x y, c x y = c y x) := hsym
        have HBD : Hid (∀ x y, -(2 * j : Int) ≤ c x y ∧ c x y ≤ 2 * j) := hbd
        clear hOS hsym hbd
        by_cases hlt : j < ops.length
        · obtain ⟨⟨A, B, D⟩, hp⟩ : ∃ p, ops[j]? = some p := ⟨ops[j], List.getElem?_eq_getElem hlt⟩
          obtain ⟨bO, offO, rfl, hbO, hcO⟩ : ∃ b off, aoO = some ⟨b, off, none⟩ ∧ b < w.heap.size ∧ ∀ k p, ops[k]? = some p → w.cell? ⟨b, off + k * 3, none⟩ = some (.int .u8 (p.1 : Int)) ∧ w.cell? ⟨b, off + k * 3 + 1, none⟩ = some (.int .u8 (p.2.1 : Int)) ∧ w.cell? ⟨b, off + k * 3 + 2, none⟩ = some (.int .i8 p.2.2) := by
            rcases HO2.out with h | h
            · omega
            · exact h
          obtain ⟨d1, d2, d3⟩ := hcO j _ hp
          rw [← HOS.out.low.cell (p := ⟨bO, _, none⟩) hbO] at d1 d2 d3
          obtain ⟨hA, hB', hD1, hD2⟩ := HO1.out _ (List.mem_of_getElem? hp)
          replace hA : A < 256 := hA
          replace hB' : B < 256 := hB'
          replace hD1 : -128 ≤ D := hD1
          replace hD2 : D ≤ 127 := hD2
          replace d1 : wr.cell? ⟨bO, offO + j * 3, none⟩ = some (.int .u8 (A : Int)) := d1
          replace d2 : wr.cell? ⟨bO, offO + j * 3 + 1, none⟩ = some (.int .u8 (B : Int)) := d2
          replace d3 : wr.cell? ⟨bO, offO + j * 3 + 2, none⟩ = some (.int .i8 D) := d3
          obtain ⟨x, hx⟩ : ∃ x, x = A % k := ⟨_, rfl⟩
          obtain ⟨y, hy⟩ : ∃ y, y = B % k := ⟨_, rfl⟩
          have hxI : (A : Int) % (k : Int) = (x : Int) := by rw [hx]; rfl
          have hyI : (B : Int) % (k : Int) = (y : Int) := by rw [hy]; rfl
          have hxk : x < k := by rw [hx]; exact Nat.mod_lt _ (by omega)
          have hyk : y < k := by rw [hy]; exact Nat.mod_lt _ (by omega)
          have hk0 : ((k : Int) == 0) = false := by simp; omega
          clear hx hy hcO hp
          have hd := tmod3 D
          have hwo := HOS.out.alloc (.cells #[.int .u8 (A : Int), .int .u8 (B : Int), .int .i8 D] 51)
          have HWO : Hid (OS w (w.heap.size + 1) w.heap.size Bg Ba C k (.slice aoB bs.length cB) S (wr.alloc (.cells #[.int .u8 (A : Int), .int .u8 (B : Int), .int .i8 D] 51)) cutv cutL av L c c) := hwo
          clear hwo
          go_wp2_with fail
          generalize D.tmod 3 = d at *
          refine (add_any _ _ Bg Ba k S cutv cutL av L c x y d HWO.out.gs hxk hyk hnn40 hd (fun x y => by have := HBD.out x y; omega) (by omega)).mono ?_
          intro e w3 hp
          obtain ⟨rfl, cutv', cutL', av', L', hO3, hcl'⟩ := HWO.out.add hp
          clear hp
          have HO3 : Hid (OS w (w.heap.size + 1) w.heap.size Bg Ba C k (.slice aoB bs.length cB) S w3 cutv' cutL' av' L' (addC c x y d) c) := hO3
          have HO4 : Hid (OS w (w.heap.size + 1) w.heap.size Bg Ba C k (.slice aoB bs.length cB) S (w3.setCell ⟨C + 1 + x, y, none⟩ (.int .i64 (c x y + d))) cutv' cutL' av' L' (addC c x y d) (putC c x y d)) := hO3.count hxk d
          clear hO3
          have hcxy := HBD.out x y
          have f1 := HO3.out.cn.2.1.cell hxk
          have f2 := (HO3.out.cn.2.2 x hxk).2.cell hyk
          have f3 := (HO3.out.cn.2.2 x hxk).2.frozen y
          generalize hcv : c x y = cv at f2 hcxy
          have HCV : Hid (c x y = cv) := hcv
          clear hcv
          by_cases hxy : x = y
          · have HAC : Hid (addC c x y d = putC c x y d) := if_pos hxy
            have hne : ((x : Int) != (y : Int)) = false := by subst hxy; simp
            have HXY : Hid (x = y) := hxy
            clear hxy
            go_wp2_with fail
            go_roundw
            case rel =>
              go_light
              refine ⟨j + 1, by omega, by go_num, cutv', cutL', av', L', addC c x y d, ?_, addC_sym HSY.out x y d, fun u v => ?_, by omega⟩
              · have := HO4.out
                rw [HCV.out, ← HAC.out] at this
                exact this
              · have := addC_bound HBD.out x y hd u v
                omega
            case measure => simp [intOf]; omega
          · have HAC : Hid (addC c x y d = putC (putC c x y d) y x d) := if_neg hxy
            have hne : ((x : Int) != (y : Int)) = true := by simp; omega
            have hyx : putC c x y d y x = c y x := by unfold putC; rw [upd_other _ _ (Ne.symm hxy)]
            have hcyx := HBD.out y x
            have f4 := HO4.out.cn.2.1.cell hyk
            have f5 := (HO4.out.cn.2.2 y hyk).2.cell hxk
            have f6 := (HO4.out.cn.2.2 y hyk).2.frozen x
            have hO5 := HO4.out.count (y := x) hyk d
            rw [hyx] at f5 hO5
            rw [HCV.out] at f4 f5 f6 hO5
            generalize hcw : c y x = cw at f5 hcyx hO5
            have HO5 : Hid _ := hO5
            clear hyx hO5 hcw
            go_wp2_with fail
            go_roundw
            case rel =>
              go_light
              refine ⟨j + 1, by omega, by go_num, cutv', cutL', av', L', addC c x y d, ?_, addC_sym HSY.out x y d, fun u v => ?_, by omega⟩
              · have := HO5.out
                rw [← HAC.out] at this
                exact this
              · have := addC_bound HBD.out x y hd u v
                omega
            case measure => simp [intOf]; omega
        · obtain rfl : j = ops.length := by omega
          obtain ⟨aoV, capV, rfl, _⟩ := owns_form HOS.out.gs.cut
          obtain ⟨vB, wA, hr1, oB, kA⟩ := run_dup wr _ _ cutL HOS.out.gs.cut (by omega)
          obtain ⟨aoC, capC, rfl, hcC, _, haoC, haoC'⟩ := owns_form oB
          have hOA := HOS.out.keep kA
          have hsA : w.heap.size ≤ wA.heap.size := hOA.low.size
          obtain ⟨wM, v2, wP, gA, capA, wE, hr2, hr3, hr4, oA, kE⟩ := run_all wA qs a b aoQ cQ w.heap.size hsA hql (by
            rcases HQ2.out with h | ⟨bq, off, e, hbq, hcq⟩
            · exact .inl h
            · refine .inr ⟨bq, off, e, hbq, fun k p hp => ?_⟩
              rw [hOA.low.cell (p := ⟨bq, _, none⟩) hbq, hOA.low.cell (p := ⟨bq, _, none⟩) hbq]
              exact hcq k p hp)
          have hOE := hOA.keep kE
          have oBE : wE.ownsRow wr.heap.size 67 2 (.slice aoC cutL.length capC) cutL.length (pairCells cutL) := owns_frame oB (fun k hk => kE.block (oB.lt k hk).2 id)
          have HOE : Hid (OS w (w.heap.size + 1) w.heap.size Bg Ba C k (.slice aoB bs.length cB) S wE (.slice aoV cutL.length capV) cutL av L c c) := hOE
          have HOB : Hid (wE.ownsRow wr.heap.size 67 2 (.slice aoC cutL.length capC) cutL.length (pairCells cutL)) := oBE
          have HOA : Hid (wE.ownsRow wA.heap.size 59 2 (.slice (some ⟨gA, 0, none⟩) (qs.length + 1) capA) (qs.length + 1) (qCells ((a, b) :: qs))) := oA
          have e1 : wr.cell? ⟨Bg, 1, none⟩ = some (.slice aoV cutL.length capV) := HOS.out.gs.g.cell (by omega)
          have HR1 : Hid _ := hr1
          have HR3 : Hid _ := hr3
          have HR4 : Hid _ := hr4
          have mkq : (Instr.makeSlice 44 (.int .i64 0) (.int .i64 ((qs.length : Int) + 1))).run Yba.prog wA = .ok (.slice (some ⟨wA.heap.size, 0, none⟩) 0 (qs.length + 1)) wM := hr2
          have hmf : ∀ (fn : Fn) (first cap : Array Value) (w : World), (Instr.makeFunc fn first cap).run Yba.prog w = .ok (.func fn first cap) w := fun _ _ _ _ => rfl
          clear hr1 hr2 hr3 hr4 oB kA hOA oA kE hOE oBE HOS hj hlt
          go_wp2_with (first | (at_builtin; refine wpList_append_eq rfl (.const (.slice none 0 0)) (.tmp 119) 53 53 ?_ ?_ _ _ _ _ ?_ ?_ HR1.out ?_; exact rfl; exact rfl; exact rfl; exact rfl) | (at_builtin; refine wpList_append_eq rfl (.tmp 125) (.tmp 129) 44 44 ?_ ?_ _ _ _ _ ?_ ?_ HR3.out ?_; exact rfl; exact rfl; exact rfl; exact rfl) | (at_builtin; refine wpList_append_eq rfl (.tmp 131) (.tmp 132) 44 44 ?_ ?_ _ _ _ _ ?_ ?_ HR4.out ?_; exact rfl; exact rfl; exact rfl; exact rfl))
          have HPM0 : Hid (PM (wE.alloc (.cells #[nilv] 48)) (wE.heap.size + 1) Bg Ba wE.heap.size k (.slice aoV cutL.length capV) S (wE.alloc (.cells #[nilv] 48)) 0 (fun _ => nilv) (fun _ => []) (fun _ _ => 0)) := PM.start HOE.out
          have HAD0 : Hid (AdjIn (wE.alloc (.cells #[nilv] 48)) (wE.heap.size + 1) Ba k av L c) := AdjIn.start HOE.out
          have HAL0 : Hid ((wE.alloc (.cells #[nilv] 48)).ownsRow wA.heap.size 59 2 (.slice (some ⟨gA, 0, none⟩) (qs.length + 1) capA) (qs.length + 1) (qCells ((a, b) :: qs))) := HOA.out.alloc _
          have HCB0 : Hid ((wE.alloc (.cells #[nilv] 48)).ownsRow wr.heap.size 67 2 (.slice aoC cutL.length capC) cutL.length (pairCells cutL)) := HOB.out.alloc _
          have sl := slice0
          clear e1 mkq hmf HOA HOB HR1 HR3 HR4
          go_loopg [137] (qs.length + 1) (fun m i wr => ∃ k' : Nat, k' ≤ qs.length + 1 ∧ i = .int .i64 (k' : Int) ∧ m = qs.length + 1 - k' ∧ ∃ s r ys sv, PM (wE.alloc (.cells #[nilv] 48)) (wE.heap.size + 1) Bg Ba wE.heap.size k (.slice aoV cutL.length capV) S wr s r ys sv ∧ 0 ≤ s ∧ s ≤ k' ∧ ∀ t x, t < 2 → x < k → sv t x ≤ s)
          case atStart => exact ⟨0, Nat.zero_le _, rfl, rfl, _, _, _, _, HPM0.out, Int.le_refl _, Int.le_refl _, fun _ _ _ _ => Int.le_refl _⟩
          case round =>
            obtain ⟨j, hj, rfl, hgj, s, r, ys, sv, hP, hs0, hsj, hsv⟩ := hrel
            have HP : Hid (PM (wE.alloc (.cells #[nilv] 48)) (wE.heap.size + 1) Bg Ba wE.heap.size k (.slice aoV cutL.length capV) S wr s r ys sv) := hP
            have HSV : Hid (∀ t x, t < 2 → x < k → sv t x ≤ s) := hsv
            clear hP hsv
            by_cases hlt : j < qs.length + 1
            · obtain ⟨⟨A, B⟩, hp⟩ : ∃ p, ((a, b) :: qs)[j]? = some p := ⟨((a, b) :: qs)[j]'(by simpa using hlt), List.getElem?_eq_getElem _⟩
              have hAB : A < 256 ∧ B < 256 := by
                rcases List.mem_cons.1 (List.mem_of_getElem? hp) with e | e
                · cases e; exact ⟨ha, hb⟩
                · exact HQ1.out _ e
              obtain ⟨hA, hB'⟩ := hAB
              have hrow := HPM0.out.row HP.out HAL0.out (by simp) (by decide) (by decide) (by decide)
              have d1 : wr.cell? ⟨gA, j * 2, none⟩ = some (.int .u8 (A : Int)) := owns_cell hrow (qCells_at _ _ _ hp).1
              have d2 : wr.cell? ⟨gA, j * 2 + 1, none⟩ = some (.int .u8 (B : Int)) := owns_cell hrow (qCells_at _ _ _ hp).2
              obtain ⟨x, hx⟩ : ∃ x, x = A % k := ⟨_, rfl⟩
              obtain ⟨y, hy⟩ : ∃ y, y = B % k := ⟨_, rfl⟩
              have hxI : (A : Int) % (k : Int) = (x : Int) := by rw [hx]; rfl
              have hyI : (B : Int) % (k : Int) = (y : Int) := by rw [hy]; rfl
              have hxk : x < k := by rw [hx]; exact Nat.mod_lt _ (by omega)
              have hyk : y < k := by rw [hy]; exact Nat.mod_lt _ (by omega)
              have hk0 : ((k : Int) == 0) = false := by simp; omega
              have hPq := HP.out.alloc (.cells #[.int .u8 (A : Int), .int .u8 (B : Int)] 59)
              obtain ⟨ao4, cap4, hr4, _⟩ := owns_form (hPq.fam.1 4 (by omega))
              replace hr4 : r 4 = .slice ao4 (ys 4).length cap4 := hr4
              have d3 := (hPq.box.cell (j := 0) (by omega)).trans (congrArg some hr4)
              have d4 := hPq.box.frozen 0
              have HPc : Hid _ := hPq.cut4 hr4
              clear hx hy hp hrow hPq hr4
              go_wp2_with fail
              have hwE : w.heap.size ≤ wE.heap.size := HOE.out.low.size
              refine (path_both _ w.heap.size (wE.heap.size + 1) Bg Ba wE.heap.size w.heap.size k (.slice aoV cutL.length capV) (.slice aoB bs.length cB) S s _ _ sv av L c bs x y HPc.out.self (HAD0.out.through HPM0.out HPc.out) (HOE.out.boxed HPc.out) (by omega) (HOE.out.marks HB.out HPc.out) (by omega) HOE.out.pw hnn40 hxk hyk ⟨hs0, by omega⟩ HSV.out (upd_same _ _ _) HSY.out).mono ?_
              rintro e w5 ⟨s', hs1', hs2', rb, r5, ys5, sv5, rfl, hrb, hP5, hsv5, hgood, hsame⟩
              have HP5 : Hid (PM (wE.alloc (.cells #[nilv] 48)) (wE.heap.size + 1) Bg Ba wE.heap.size k (.slice aoV cutL.length capV) S w5 s' r5 ys5 sv5) := HPc.out.chain hP5
              have HRB : Hid (rb = true ↔ Conn (adjOf k c) (okOf bs) x y) := hrb
              have HSV5 : Hid (∀ t x, t < 2 → x < k → sv5 t x ≤ s') := hsv5
              have HGOOD : Hid (∀ z, z ∈ ys5 4 → z < k ∧ z ≠ x ∧ z ≠ y) := hgood
              have HSAME : Hid (x = y → ys5 4 = []) := hsame
              clear hP5 hrb hsv5 hgood hsame HPc HP d1 d2 d3 d4
              have b1 := (HOE.out.boxed HP5.out).cell (j := 0) (by omega)
              go_wp2_with fail
              refine (reach_any w5 w.heap.size (C + 1 + k) C k (fun x => C + 1 + x) c (.slice aoB bs.length cB) bs x y (HOE.out.counts HP5.out) (HOE.out.marks HB.out HP5.out) (by have := HOE.out.hi; have := HP5.out.sz; omega) (by have := HP5.out.sz; omega) hxk hyk hnn40).mono ?_
              rintro e w6 ⟨rr, rfl, hrr, hb6⟩
              obtain rfl : rr = rb := bool_eq hrr HRB.out
              have HP6 : Hid (PM (wE.alloc (.cells #[nilv] 48)) (wE.heap.size + 1) Bg Ba wE.heap.size k (.slice aoV cutL.length capV) S w6 s' r5 ys5 sv5) := HP5.out.below hb6
              clear hrr hb6 HP5 HRB b1
              have hbne : (rr != rr) = false := by simp
              obtain ⟨ao5, cap5, hr5, hc5, hm5, hao5, hao5'⟩ := owns_form (HP6.out.fam.1 4 (by omega))
              replace hr5 : r5 4 = .slice ao5 (ys5 4).length cap5 := hr5
              have b2 := (HP6.out.box.cell (j := 0) (by omega)).trans (congrArg some hr5)
              have HR5 : Hid (r5 4 = .slice ao5 (ys5 4).length cap5) := hr5
              have HAO5 : Hid (ao5 = none ∨ ∃ g, ao5 = some ⟨g, 0, none⟩) := hao5
              have HAO5' : Hid (ao5 = none → (ys5 4).length = 0 ∧ cap5 = 0) := hao5'
              have HL5 : Hid ((ys5 4).length ≤ 9223372036854775807) := by have h1 : (ys5 4).length ≤ cap5 := hc5; have h2 : cap5 ≤ 9223372036854775807 := hm5; exact (by omega : (ys5 4).length ≤ 9223372036854775807)
              clear hr5 hao5 hao5' hc5 hm5
              go_upto_region 37 with (fail)
              go_cut [172] (fun v wx => v = .bool false ∧ wx = w6)
              case first =>
                by_cases hxy : x = y
                · have hz : (ys5 4).length = 0 := by rw [HSAME.out hxy]; rfl
                  rw [hz] at b2
                  have hxyI : ((x : Int) == (y : Int)) = true := by simp; omega
                  go_wp2_with fail
                  go_meet
                  case rel => go_light; exact ⟨rfl, rfl⟩
                · have hxyI : ((x : Int) == (y : Int)) = false := by simp; omega
                  go_wp2_with fail
                  go_meet
                  case rel => go_light; exact ⟨rfl, rfl⟩
              case rest =>
                obtain ⟨rfl, rfl⟩ := hcut
                go_wp2_with fail
                go_loopg [175] (ys5 4).length (fun m i wr => ∃ i' : Nat, i' ≤ (ys5 4).length ∧ i = .int .i64 (i' : Int) ∧ m = (ys5 4).length - i' ∧ wr = wc)
                case atStart => exact ⟨0, Nat.zero_le _, rfl, rfl, rfl⟩
                case round =>
                  obtain ⟨i, hi, rfl, hgi, rfl⟩ := hrel
                  by_cases hil : i < (ys5 4).length
                  · obtain ⟨z, hz⟩ : ∃ z, (ys5 4)[i]? = some z := ⟨(ys5 4)[i], List.getElem?_eq_getElem hil⟩
                    obtain ⟨g5, rfl⟩ : ∃ g, ao5 = some ⟨g, 0, none⟩ := by
                      rcases HAO5.out with h | h
                      · have := (HAO5'.out h).1; omega
                      · exact h
                    obtain ⟨hzk, hzx, hzy⟩ := HGOOD.out z (List.mem_of_getElem? hz)
                    have hzxI : ((z : Int) == (x : Int)) = false := by simp; omega
                    have hzyI : ((z : Int) == (y : Int)) = false := by simp; omega
                    have hrow := HP6.out.fam.1 4 (by omega)
                    rw [HR5.out] at hrow
                    have b3 : wr.cell? ⟨g5, i, none⟩ = some (.int .i64 (z : Int)) := owns_cell hrow (by simp [hz, nat64])
                    clear hrow hz
                    have hi9 : i + 1 ≤ 9223372036854775807 := by have := HL5.out; omega
                    go_wp2_with fail
                    go_roundg ((ys5 4).length - (i + 1))
                    case measure => omega
                    case rel => go_light; exact ⟨i + 1, by omega, by go_num, rfl, rfl⟩
                  · go_wp2_with fail
                    go_roundg (qs.length + 1 - (j + 1))
                    case measure => omega
                    case rel => go_light; exact ⟨j + 1, by omega, by go_num, rfl, s', r5, ys5, sv5, HP6.out, by omega, by omega, HSV5.out⟩
            · obtain rfl : j = qs.length + 1 := by omega
              have HAD : Hid (AdjIn wr (wE.heap.size + 1) Ba k av L c) := HAD0.out.through HPM0.out HP.out
              have HCN : Hid (CntIn wr (C + 1 + k) C k (fun x => C + 1 + x) c) := HOE.out.counts HP.out
              have HGG : Hid (Blk wr Bg 57 9 (gfun Ba k (.slice aoV cutL.length capV) s S r)) := HP.out.g
              have HCV : Hid (wr.ownsRow (w.heap.size + 1) 67 2 (.slice aoV cutL.length capV) cutL.length (pairCells cutL)) := HPM0.out.row HP.out (HOE.out.gs.cut.alloc (.cells #[nilv] 48)) (by simp) (by decide) (by decide) (by decide)
              obtain ⟨lo, HCB⟩ : ∃ lo, Hid (wr.ownsRow lo 67 2 (.slice aoC cutL.length capC) cutL.length (pairCells cutL)) := ⟨_, HPM0.out.row HP.out HCB0.out (by simp) (by decide) (by decide) (by decide)⟩
              have HLOW : Hid (Below w.heap.size w wr) := HOE.out.low2 HP.out
              clear HSV hs0 hsj hgj hj hlt HP HAD0 HAL0 HCB0 HPM0 HOE
              generalize hwS : wr = wS at *
              clear hwS
              go_wp2_with fail
              go_loopg [33] k (fun m i wx => ∃ x : Nat, x ≤ k ∧ i = .int .i64 (x : Int) ∧ m = k - x ∧ Below wS.heap.size wS wx)
              case atStart => exact ⟨0, Nat.zero_le _, rfl, rfl, Below.refl _ _⟩
              case round =>
                obtain ⟨x, hx, rfl, hgx, hlo⟩ := hrel
                have HLO : Hid (Below wS.heap.size wS wr) := hlo
                clear hlo
                by_cases hxk : x < k
                · go_wp2_with fail
                  go_loopg [34, 35] k (fun m v i wq => ∃ y : Nat, y ≤ k ∧ i = .int .i64 (y : Int) ∧ v = .int .i64 (nz (c x) y : Int) ∧ m = k - y ∧ wq = wr)
                  case atStart => exact ⟨0, Nat.zero_le _, rfl, rfl, rfl, rfl⟩
                  case round =>
                    obtain ⟨y, hy, rfl, rfl, hgy, rfl⟩ := hrel
                    have hCl := HCN.out.2.1.lt
                    have hXl := (HCN.out.2.2 x hxk).2.lt
                    by_cases hyk : y < k
                    · have c1 := (HLO.out.cell (p := ⟨C, x, none⟩) hCl).trans (HCN.out.2.1.cell hxk)
                      have c2 := (HLO.out.cell (p := ⟨C + 1 + x, y, none⟩) hXl).trans ((HCN.out.2.2 x hxk).2.cell hyk)
                      have HNZ : Hid (nz (c x) (y + 1) = nz (c x) y + (if c x y = 0 then 0 else 1)) := nz_succ (c x) y
                      have hnzl := nz_le (c x) y
                      generalize nz (c x) y = q at *
                      by_cases hz : c x y = 0
                      · rw [if_pos hz] at HNZ
                        rw [hz] at c2
                        go_wp2_with fail
                        go_roundg (k - (y + 1))
                        case measure => omega
                        case rel => go_light; exact ⟨y + 1, by omega, by go_num, by rw [HNZ.out]; rfl, rfl, rfl⟩
                      · rw [if_neg hz] at HNZ
                        have hzI : (c x y != 0) = true := by simpa using hz
                        generalize c x y = cv at c2 hzI
                        go_wp2_with fail
                        go_roundg (k - (y + 1))
                        case measure => omega
                        case rel => go_light; exact ⟨y + 1, by omega, by go_num, by rw [HNZ.out]; go_num, rfl, rfl⟩
                    · obtain rfl : k = y := by omega
                      obtain ⟨aoL, capL, hrL, _, _, hsL, hnL⟩ := owns_form (HAD.out.row x hxk)
                      have c1 : wr.cell? ⟨Bg, 0, none⟩ = some (.slice (some ⟨Ba, 0, none⟩) k k) := (HLO.out.cell (p := ⟨Bg, 0, none⟩) HGG.out.lt).trans (HGG.out.cell (by omega))
                      have c2 : wr.cell? ⟨Ba, x, none⟩ = some (.slice aoL (L x).length capL) := (HLO.out.cell (p := ⟨Ba, x, none⟩) HAD.out.blk.lt).trans ((HAD.out.blk.cell hxk).trans (congrArg some hrL))
                      have hnz : nz (c x) k = (L x).length := (HAD.out.rep x hxk).length.symm
                      have HLn : Hid ((L x).length ≤ k) := by have h1 := nz_le (c x) k; exact (by omega : (L x).length ≤ k)
                      have HL : Hid (av x = .slice aoL (L x).length capL) := hrL
                      have HSL : Hid (aoL = none ∨ ∃ g, aoL = some ⟨g, 0, none⟩) := hsL
                      have HNL : Hid (aoL = none → (L x).length = 0 ∧ capL = 0) := hnL
                      clear hrL hsL hnL
                      go_wp2_with fail
                      clear hnz
                      go_loopg [236] (L x).length (fun m i wq => ∃ j : Nat, j ≤ (L x).length ∧ i = .int .i64 (j : Int) ∧ m = (L x).length - j ∧ Below wS.heap.size wS wq)
                      case atStart => exact ⟨0, Nat.zero_le _, rfl, rfl, HLO.out⟩
                      case round =>
                        clear HLO c1 c2
                        obtain ⟨j, hj, rfl, hgj, hlo⟩ := hrel
                        have HLO : Hid (Below wS.heap.size wS wr) := hlo
                        clear hlo
                        by_cases hjl : j < (L x).length
                        · obtain ⟨⟨q, nq'⟩, hp⟩ : ∃ p, (L x)[j]? = some p := ⟨(L x)[j], List.getElem?_eq_getElem hjl⟩
                          obtain ⟨gL, rfl⟩ : ∃ g, aoL = some ⟨g, 0, none⟩ := by
                            rcases HSL.out with h | h
                            · have := (HNL.out h).1; omega
                            · exact h
                          obtain ⟨hqk, hqc, hq0⟩ := (HAD.out.rep x hxk).1 _ (List.mem_of_getElem? hp)
                          replace hqk : q < k := hqk
                          replace hqc : nq' = c x q := hqc
                          replace hq0 : nq' ≠ 0 := hq0
                          have hrow0 := HAD.out.row x hxk
                          rw [HL.out] at hrow0
                          have hrow := owns_frame (w' := wr) hrow0 (fun k hk => HLO.out.block k (hrow0.lt k hk).2)
                          have d1 : wr.cell? ⟨gL, j * 2, none⟩ = some (.int .i32 (q : Int)) := owns_cell hrow (linkCells_at _ _ _ hp).1
                          have d2 : wr.cell? ⟨gL, j * 2 + 1, none⟩ = some (.int .i32 nq') := owns_cell hrow (linkCells_at _ _ _ hp).2
                          have hsz := HLO.out.size
                          have hCl := HCN.out.2.1.lt
                          have hXl := (HCN.out.2.2 x hxk).2.lt
                          have HLa : Hid (Below wS.heap.size wS (wr.alloc (.cells #[.int .i32 (q : Int), .int .i32 nq'] 66))) := HLO.out.alloc hsz _
                          have d3 := (HLa.out.cell (p := ⟨C, x, none⟩) hCl).trans (HCN.out.2.1.cell hxk)
                          have d4 := (HLa.out.cell (p := ⟨C + 1 + x, q, none⟩) hXl).trans ((HCN.out.2.2 x hxk).2.cell hqk)
                          rw [← hqc] at d4
                          have hz1 : (nq' == 0) = false := by simpa using hq0
                          have hz2 : (nq' != nq') = false := by simp
                          have hbq := HBD.out x q
                          rw [← hqc] at hbq
                          have hwr : IntKind.i64.wrap nq' = nq' := by rw [IntKind.wrap_i64]; omega
                          have hkq : ¬ k ≤ q := by omega
                          have hq0' : ¬ ((q : Int) < 0) := by omega
                          clear hbq
                          have hj40 : j < 40 := by have := HLn.out; omega
                          clear hp hrow hrow0 hqc hCl hXl
                          go_upto_region 61 with (fail)
                          go_quiet (fail)
                          go_wp2_with fail
                          go_roundg ((L x).length - (j + 1))
                          case measure => omega
                          case rel => go_light; exact ⟨j + 1, by omega, by go_num, rfl, below_drewN HLa.out _⟩
                        · go_wp2_with fail
                          go_roundg (k - (x + 1))
                          case measure => omega
                          case rel => go_light; exact ⟨x + 1, by omega, by go_num, rfl, HLO.out⟩
                · obtain rfl : k = x := by omega
                  have hCvl := HCV.out
                  have c1 : wr.cell? ⟨Bg, 1, none⟩ = some (.slice aoV cutL.length capV) := (HLO.out.cell (p := ⟨Bg, 1, none⟩) HGG.out.lt).trans (HGG.out.cell (by omega))
                  have hcn : ((cutL.length : Int) != (cutL.length : Int)) = false := by simp
                  have hqq := eq67
                  clear hCvl
                  go_wp2_with fail
                  go_loopg [284] cutL.length (fun m i wq => ∃ j : Nat, j ≤ cutL.length ∧ i = .int .i64 (j : Int) ∧ m = cutL.length - j ∧ Below wS.heap.size wS wq)
                  case atStart => exact ⟨0, Nat.zero_le _, rfl, rfl, HLO.out⟩
                  case round =>
                    clear HLO c1
                    obtain ⟨j, hj, rfl, hgj, hlo⟩ := hrel
                    have HLO : Hid (Below wS.heap.size wS wr) := hlo
                    clear hlo
                    by_cases hjl : j < cutL.length
                    · obtain ⟨⟨p1, p2⟩, hp⟩ : ∃ p, cutL[j]? = some p := ⟨cutL[j], List.getElem?_eq_getElem hjl⟩
                      obtain ⟨gV, capV', hvV, _⟩ := owns_some HCV.out (by omega)
                      obtain ⟨gC, capC', hvC, _⟩ := owns_some HCB.out (by omega)
                      cases hvV
                      cases hvC
                      have r1 := owns_frame (w' := wr) HCV.out (fun k hk => HLO.out.block k (HCV.out.lt k hk).2)
                      have r2 := owns_frame (w' := wr) HCB.out (fun k hk => HLO.out.block k (HCB.out.lt k hk).2)
                      have c1 : wr.cell? ⟨Bg, 1, none⟩ = some (.slice (some ⟨gV, 0, none⟩) cutL.length capV) := (HLO.out.cell (p := ⟨Bg, 1, none⟩) HGG.out.lt).trans (HGG.out.cell (by omega))
                      have d1 := owns_cell r1 (pairCells_at _ _ _ hp).1
                      have d2 := owns_cell r1 (pairCells_at _ _ _ hp).2
                      have d3 := owns_cell r2 (pairCells_at _ _ _ hp).1
                      have d4 := owns_cell r2 (pairCells_at _ _ _ hp).2
                      clear hp r1 r2
                      go_wp2_with fail
                      go_quiet (fail)
                      go_wp2_with fail
                      go_roundg (cutL.length - (j + 1))
                      case measure => omega
                      case rel => go_light; exact ⟨j + 1, by omega, by go_num, rfl, below_drewN HLO.out _⟩
                    · go_wp2_with fail
                      go_ret
                      exact ⟨rfl, HLOW.out.trans (HLO.out.mono HLOW.out.size)⟩
end Go.Proofs.Ybulkfeps.lawS7805BWhole
