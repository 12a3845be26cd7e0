import Derived.Test.YbulkfepsBpath0
import Derived.BigRegion
import Derived.Deep.Cut
import Derived.Deep.CutRange
import Derived.Deep.DeepCutAuto
namespace Go.Proofs.Ybulkfeps.lawS7805BWhole
open Go.ChangeShapes Go.WideShapes Go.ChangeAt Go.RowKit
set_option linter.unusedVariables false

set_option maxRecDepth 100000 in
set_option maxHeartbeats 40000000 in
theorem path_any (w : World) (base0 base Bg Ba Bc Bk nn : Nat) (cutv bv : Value) (S : Nat → Nat) (s : Int) (r : Nat → Value) (ys : Nat → List Nat) (sv : Nat → Nat → Int) (av : Nat → Value) (L : Nat → List (Nat × Int)) (c : Nat → Nat → Int) (bs : List Bool) (a b : Nat)
    (hP : PM w base Bg Ba Bc nn cutv S w s r ys sv) (hA : AdjIn w base Ba nn av L c) (hk : Blk w Bk 43 1 (fun _ => bv)) (hkb : Bk < base) (hbr : BoolRow w base0 bv bs) (hb0 : base0 ≤ base) (h0 : ∀ k, PW Bg Bc S k → base0 ≤ k) (hnn : nn ≤ 40) (ha : a < nn) (hb : b < nn)
    (hs : 0 ≤ s ∧ s ≤ 100000) (hsv : ∀ t x, t < 2 → x < nn → sv t x ≤ s) (hys : ys 4 = []) (hsym : ∀ x y, c x y = c y x) (hab : a ≠ b) :
    Calls Yba.prog 11 #[.pointer (some ⟨Bg, 0, none⟩), .int .i64 (a : Int), .int .i64 (b : Int), .func (.func 9) #[] #[.pointer (some ⟨Bc, 0, none⟩), .pointer (some ⟨Bk, 0, none⟩)]] w (PathPost w base Bg Ba Bc nn cutv S (s + 1) c bs a b) := by
  have hab' : ((a : Int) == (b : Int)) = false := by simp; omega
  have c1 : w.cell? ⟨Bg, 2, none⟩ = some (.int .i64 s) := hP.g.cell (by omega)
  have c2 : w.frozen? ⟨Bg, 2, none⟩ = false := hP.g.frozen _
  have HL : Hid (L1 w base Bg Ba Bc nn cutv S (s + 1) a b 0 (w.setCell ⟨Bg, 2, none⟩ (.int .i64 (s + 1)))) := L1.first (hP.search (s + 1)) hys hsv
  have HP : Hid (PM w base Bg Ba Bc nn cutv S w s r ys sv) := hP
  have HA : Hid (AdjIn w base Ba nn av L c) := hA
  have HK : Hid (Blk w Bk 43 1 (fun _ => bv)) := hk
  have HBR : Hid (BoolRow w base0 bv bs) := hbr
  have H0 : Hid (∀ k, PW Bg Bc S k → base0 ≤ k) := h0
  have HSY : Hid (∀ x y, c x y = c y x) := hsym
  have sl := slice0
  obtain ⟨hs1, hs2⟩ := hs
  clear hP hA hk hbr h0 hsv hys hsym
  go_enter Yba.func11, Yba.ntmps11
  go_wp2_with fail
  generalize hw1 : w.setCell ⟨Bg, 2, none⟩ (.int .i64 (s + 1)) = w1 at *
  clear hw1 c1 c2
  go_loopw [30] (fun i wr => ∃ k : Nat, k ≤ 2 ∧ i = .int .i64 (k : Int) ∧ L1 w base Bg Ba Bc nn cutv S (s + 1) a b k wr) (fun i _ => 2 - (intOf i).toNat)
  case atStart => exact ⟨0, by omega, rfl, HL.out⟩
  case round =>
    clear HL
    obtain ⟨k, hk, rfl, hL⟩ := hrel
    by_cases hlt : k < 2
    · obtain ⟨r1, ys1, sv1, hP1, hy1, hl1, hi1, hle1⟩ := hL
      have ix := run_ends a b k hlt
      have hen := ends_lt ha hb k
      have HIN : Hid (ys1 4 = [] ∧ (∀ j, j < k → ys1 j = [ends a b j]) ∧ (∀ t x, t < 2 → x < nn → (sv1 t x = s + 1 ↔ t < k ∧ x = ends a b t)) ∧ ∀ t x, t < 2 → x < nn → sv1 t x ≤ s + 1) := ⟨hy1, hl1, hi1, hle1⟩
      clear hy1 hl1 hi1 hle1
      generalize hen' : ends a b k = y at *
      have e1 : wr.cell? ⟨Bg, 3 + k, none⟩ = some (.slice (some ⟨S k, 0, none⟩) nn nn) := (hP1.g.cell (by omega)).trans (congrArg some (gfun_seen _ _ _ _ _ _ k hlt))
      have e2 : wr.cell? ⟨Bg, 2, none⟩ = some (.int .i64 (s + 1)) := hP1.g.cell (by omega)
      have e3 := (hP1.sn k hlt).cell hen
      have e4 := (hP1.sn k hlt).frozen y
      have hP2 := (hP1.mark (t := k) hlt y (s + 1)).drew
      obtain ⟨ao, cap, hr0, _⟩ := owns_form (hP1.fam.1 k (by omega))
      replace hr0 : r1 k = .slice ao (ys1 k).length cap := hr0
      generalize hn0 : (ys1 k).length = n0 at hr0
      obtain ⟨hc1, hc2⟩ := hP2.drew.fam.cutAt (i := k) (by omega) hr0
      obtain ⟨g', cap', w3, hrun, e5, e6, hP3⟩ := hP2.drew.push (i := k) (by omega) y (zs := []) hc1 hc2 (by simp)
      have e7 : (wr.setCell ⟨S k, y, none⟩ (.int .i64 (s + 1))).cell? ⟨Bg, 5 + k, none⟩ = some (.slice ao n0 cap) := (hP2.g.cell (by omega)).trans (congrArg some ((gfun_at _ _ _ _ _ _ k).trans hr0))
      have e8 : ((wr.setCell ⟨S k, y, none⟩ (.int .i64 (s + 1))).alloc (.cells #[.int .i64 (y : Int)] 3)).cell? ⟨Bg, 5 + k, none⟩ = some (.slice ao n0 cap) := ((hP2.g.alloc _).cell (by omega)).trans (congrArg some ((gfun_at _ _ _ _ _ _ k).trans hr0))
      have HR : Hid _ := hrun
      have HP3 : Hid _ := hP3
      have hsz : (wr.setCell ⟨S k, y, none⟩ (.int .i64 (s + 1))).heap.size = wr.heap.size := by simp [World.setCell]
      clear hrun hP3 hc1 hc2 hn0 hP1 hP2
      generalize S k = Sk at *
      go_wp2_with fail
      go_region
      go_wp2_with fail
      go_region_law (refine step_append_eq rfl (.tmp 54) (.tmp 56) 48 48 rfl rfl (.slice ao 0 cap) (.slice (some ⟨(wr.setCell ⟨Sk, y, none⟩ (.int .i64 (s + 1))).heap.size, 0, none⟩) 1 1) _ w3 ?_ ?_ HR.out ?_; (first | exact rfl | simp [Act.eval]); (first | exact rfl | (rw [hsz]; exact rfl) | simp [Act.eval]))
      all_goals
        go_wp2_with fail
        go_roundw
        case rel => go_light; exact ⟨k + 1, by omega, by go_num, L1.next hlt (by rw [hen']; exact hen) HIN.out.1 HIN.out.2.1 HIN.out.2.2.1 HIN.out.2.2.2 (by rw [hen']; exact HP3.out)⟩
        case measure => simp [intOf]; omega
    · obtain rfl : k = 2 := by omega
      obtain ⟨r1, ys1, sv1, hO⟩ := L1.over c bs hnn ha hb hL
      have HO : Hid (OL w base Bg Ba Bc nn cutv S (s + 1) c bs a b 81 wr r1 ys1 sv1) := hO
      clear hO hL hk hlt
      go_wp2_with fail
      go_loopg [] 81 (fun m wr => ∃ r ys sv, OL w base Bg Ba Bc nn cutv S (s + 1) c bs a b m wr r ys sv)
      case atStart => exact ⟨r1, ys1, sv1, HO.out⟩
      case round =>
        clear HO
        obtain ⟨r1, ys1, sv1, hO⟩ := hrel
        obtain ⟨G, hG⟩ : ∃ G, G = gk := ⟨_, rfl⟩
        rw [← hG] at hO
        obtain ⟨ao0, cap0, hr0, _, _, hs0, hn0⟩ := owns_form (hO.pm.fam.1 0 (by omega))
        obtain ⟨ao1, cap1, hr1, _, _, hs1', hn1⟩ := owns_form (hO.pm.fam.1 1 (by omega))
        replace hr0 : r1 0 = .slice ao0 (ys1 0).length cap0 := hr0
        replace hr1 : r1 1 = .slice ao1 (ys1 1).length cap1 := hr1
        have e0 : wr.cell? ⟨Bg, 5, none⟩ = some (.slice ao0 (ys1 0).length cap0) := (hO.pm.g.cell (by omega)).trans (congrArg some hr0)
        have e1 : wr.cell? ⟨Bg, 6, none⟩ = some (.slice ao1 (ys1 1).length cap1) := (hO.pm.g.cell (by omega)).trans (congrArg some hr1)
        have HO : Hid (OL w base Bg Ba Bc nn cutv S (s + 1) c bs a b G wr r1 ys1 sv1) := hO
        have HG : Hid (G = gk) := hG
        clear hG
        clear hO hr0 hr1 hs0 hs1' hn0 hn1
        have HE : Hid ((ys1 0).length ≤ 80 ∧ (ys1 1).length ≤ 80) := ⟨HO.out.elen 0 (by omega), HO.out.elen 1 (by omega)⟩
        by_cases hz0 : (ys1 0).length = 0
        · have hz : ys1 0 = [] := List.eq_nil_of_length_eq_zero hz0
          rw [hz0] at e0
          go_wp2_with fail
          go_ret
          exact ⟨false, r1, ys1, sv1, rfl, ⟨fun q => (by cases q), fun q => absurd q (HO.out.pi.apart HSY.out hab (fun t _ => ends_lt ha hb t) (t := 0) (by omega) (fun x hx => by have hx : x ∈ ys1 0 := hx; rw [hz] at hx; cases hx))⟩, HO.out.pm, HO.out.le, HO.out.good, fun e => absurd e hab⟩
        · by_cases hz1 : (ys1 1).length = 0
          · have hz : ys1 1 = [] := List.eq_nil_of_length_eq_zero hz1
            rw [hz1] at e1
            go_wp2_with fail
            go_ret
            exact ⟨false, r1, ys1, sv1, rfl, ⟨fun q => (by cases q), fun q => absurd q (HO.out.pi.apart HSY.out hab (fun t _ => ends_lt ha hb t) (t := 1) (by omega) (fun x hx => by have hx : x ∈ ys1 1 := hx; rw [hz] at hx; cases hx))⟩, HO.out.pm, HO.out.le, HO.out.good, fun e => absurd e hab⟩
          · go_upto_region 12 with (fail)
            go_quiet (fail)
            go_upto_if 90 with (fail)
            go_cut [11] (fun sd wx => ∃ side : Nat, side < 2 ∧ sd = .int .i64 (side : Int) ∧ wx = wr.drewN nq)
            case first =>
              by_cases hsd : (ys1 1).length < (ys1 0).length
              · go_wp2_with fail
                go_meet
                case rel => go_light; exact ⟨1, by omega, rfl, rfl⟩
              · go_wp2_with fail
                go_meet
                case rel => go_light; exact ⟨0, by omega, rfl, rfl⟩
            case rest =>
              obtain ⟨side, hside, rfl, rfl⟩ := hcut
              have HO2 : Hid (OL w base Bg Ba Bc nn cutv S (s + 1) c bs a b G (wr.drewN nq) r1 ys1 sv1) := HO.out.drewN nq
              clear e0 e1 HO
              generalize wr.drewN nq = w2 at *
              obtain ⟨ao2, cap2, hr2, _⟩ := owns_form (HO2.out.pm.fam.1 (2 + side) (by omega))
              replace hr2 : r1 (2 + side) = .slice ao2 (ys1 (2 + side)).length cap2 := hr2
              generalize hn2 : (ys1 (2 + side)).length = n2 at hr2
              have hpos : 0 < (ys1 side).length := by
                match side, hside with
                | 0, _ => omega
                | 1, _ => omega
              obtain ⟨gE, capE, hrE, _⟩ := owns_some (HO2.out.pm.fam.1 side (by omega)) hpos
              replace hrE : r1 side = .slice (some ⟨gE, 0, none⟩) (ys1 side).length capE := hrE
              have h57 : 5 + (2 + side) = 7 + side := by omega
              have e2 : w2.cell? ⟨Bg, 7 + side, none⟩ = some (.slice ao2 n2 cap2) := h57 ▸ ((HO2.out.pm.g.cell (j := 5 + (2 + side)) (by omega)).trans (congrArg some ((gfun_at _ _ _ _ _ _ _).trans hr2)))
              have e3 : w2.frozen? ⟨Bg, 7 + side, none⟩ = false := HO2.out.pm.g.frozen _
              have hP3 := (HO2.out.pm.cut (i := 2 + side) (by omega) hr2).drew
              rw [h57] at hP3
              have hM := ML.start HO2.out hside hP3
              rw [hrE] at hM
              have HM : Hid (ML w base Bg Ba Bc nn cutv S (s + 1) c bs a b ys1 (.slice (some ⟨gE, 0, none⟩) (ys1 side).length capE) side (U nn (s + 1) sv1) (ys1 4).length 0 (w2.setCell ⟨Bg, 7 + side, none⟩ (.slice ao2 0 cap2)).drew (upd r1 (2 + side) (.slice ao2 0 cap2)) (upd ys1 (2 + side) []) sv1) := hM
              have e4 := hM.cellR hside
              have hEn : (ys1 side).length ≤ 80 := HO2.out.elen side hside
              clear hM hP3 hr2 hrE h57 hn2
              go_wp2_with fail
              go_region
              go_wp2_with fail
              generalize (w2.setCell ⟨Bg, 7 + side, none⟩ (.slice ao2 0 cap2)).drew = w3 at *
              clear e2 e3 e4
              have HU0 : Hid (U nn (s + 1) sv1 < G) := by
                have h1 := HO2.out.left
                have n0 : ys1 0 ≠ [] := fun e => hz0 (by rw [e]; rfl)
                have n1 : ys1 1 ≠ [] := fun e => hz1 (by rw [e]; rfl)
                rw [if_pos ⟨n0, n1⟩] at h1
                exact (by omega : U nn (s + 1) sv1 < G)
              have HCL : Hid ((ys1 4).length + 3200 * G ≤ 262400) := HO2.out.calls
              clear HO2
              go_loopg [110] (ys1 side).length (fun m i wr => ∃ k : Nat, i = .int .i64 (k : Int) ∧ k ≤ (ys1 side).length ∧ m = (ys1 side).length - k ∧ ∃ r ys sv, ML w base Bg Ba Bc nn cutv S (s + 1) c bs a b ys1 (.slice (some ⟨gE, 0, none⟩) (ys1 side).length capE) side (U nn (s + 1) sv1) ((ys1 4).length + 40 * k) k wr r ys sv)
              case atStart => exact ⟨0, rfl, Nat.zero_le _, rfl, _, _, _, HM.out⟩
              case round =>
                clear HM
                obtain ⟨k, rfl, hkE, hgk, r2, ys2, sv2, hM⟩ := hrel
                have HM : Hid (ML w base Bg Ba Bc nn cutv S (s + 1) c bs a b ys1 (.slice (some ⟨gE, 0, none⟩) (ys1 side).length capE) side (U nn (s + 1) sv1) ((ys1 4).length + 40 * k) k wr r2 ys2 sv2) := hM
                clear hM
                by_cases hlt : k < (ys1 side).length
                · obtain ⟨x, hx⟩ : ∃ x, (ys1 side)[k]? = some x := ⟨(ys1 side)[k], List.getElem?_eq_getElem hlt⟩
                  have HX : Hid ((ys1 side)[k]? = some x) := hx
                  have hxn : x < nn := (HM.out.edge side x hside (List.mem_of_getElem? hx)).1
                  have hAr := HA.out.through HP.out HM.out.pm
                  obtain ⟨aoL, capL, hrL, _, _, hsL, hnL⟩ := owns_form (hAr.row x hxn)
                  have c1 := HM.out.cellE hside rfl hx
                  have c2 : wr.cell? ⟨Bg, 0, none⟩ = some (.slice (some ⟨Ba, 0, none⟩) nn nn) := HM.out.pm.g.cell (by omega)
                  have c3 : wr.cell? ⟨Ba, x, none⟩ = some (.slice aoL (L x).length capL) := (hAr.blk.cell hxn).trans (congrArg some hrL)
                  have HLn : Hid ((L x).length ≤ nn) := by
                    have h1 := (HA.out.rep x hxn).length
                    have h2 := nz_le (c x) nn
                    exact (by omega : (L x).length ≤ nn)
                  have HL : Hid (av x = .slice aoL (L x).length capL) := hrL
                  have HSL : Hid (aoL = none ∨ ∃ g, aoL = some ⟨g, 0, none⟩) := hsL
                  have HNL : Hid (aoL = none → (L x).length = 0 ∧ capL = 0) := hnL
                  clear hx hAr hrL hsL hnL
                  go_wp2_with fail
                  go_loopg [122] (L x).length (fun m i wr => ∃ j : Nat, i = .int .i64 (j : Int) ∧ j ≤ (L x).length ∧ m = (L x).length - j ∧ ∃ r ys sv, ML w base Bg Ba Bc nn cutv S (s + 1) c bs a b ys1 (.slice (some ⟨gE, 0, none⟩) (ys1 side).length capE) side (U nn (s + 1) sv1) ((ys1 4).length + 40 * k + j) k wr r ys sv ∧ Part bs a b (s + 1) side sv (L x) j)
                  case atStart => exact ⟨0, rfl, Nat.zero_le _, rfl, _, _, _, HM.out, fun j' p hj' => absurd hj' (Nat.not_lt_zero _)⟩
                  case round =>
                    clear HM c1 c2 c3
                    rename_i gkM
                    obtain ⟨j, rfl, hjL, hgj, r3, ys3, sv3, hM, hPt⟩ := hrel
                    have HM : Hid (ML w base Bg Ba Bc nn cutv S (s + 1) c bs a b ys1 (.slice (some ⟨gE, 0, none⟩) (ys1 side).length capE) side (U nn (s + 1) sv1) ((ys1 4).length + 40 * k + j) k wr r3 ys3 sv3) := hM
                    have HPT : Hid (Part bs a b (s + 1) side sv3 (L x) j) := hPt
                    clear hM hPt
                    by_cases hjl : j < (L x).length
                    · obtain ⟨p, hp⟩ : ∃ p, (L x)[j]? = some p := ⟨(L x)[j], List.getElem?_eq_getElem hjl⟩
                      obtain ⟨y, ny⟩ := p
                      have hj40 : j < 40 := by have := HLn.out; omega
                      have hsI : (side : Int) < 2 := by omega
                      obtain ⟨gL, rfl⟩ : ∃ g, aoL = some ⟨g, 0, none⟩ := by
                        rcases HSL.out with h | h
                        · have := (HNL.out h).1; omega
                        · exact h
                      have HPj : Hid ((L x)[j]? = some (y, ny)) := hp
                      have hrep := (HA.out.rep x hxn).1 _ (List.mem_of_getElem? hp)
                      have hyn : y < nn := hrep.1
                      have HADJ : Hid (adjOf nn c x y) := ⟨hxn, hyn, fun e => hrep.2.2 (hrep.2.1.trans e)⟩
                      have hrow := (HA.out.through HP.out HM.out.pm).row x hxn
                      rw [HL.out] at hrow
                      have d1 : wr.cell? ⟨gL, j * 2, none⟩ = some (.int .i32 (y : Int)) := owns_cell hrow (linkCells_at _ _ _ hp).1
                      have d2 : wr.cell? ⟨gL, j * 2 + 1, none⟩ = some (.int .i32 ny) := owns_cell hrow (linkCells_at _ _ _ hp).2
                      have HM4 : Hid (ML w base Bg Ba Bc nn cutv S (s + 1) c bs a b ys1 (.slice (some ⟨gE, 0, none⟩) (ys1 side).length capE) side (U nn (s + 1) sv1) ((ys1 4).length + 40 * k + j) k (wr.alloc (.cells #[.int .i32 (y : Int), .int .i32 ny] 66)) r3 ys3 sv3) := HM.out.alloc _
                      clear hp hrep hrow HM
                      go_upto_region 22 with (fail)
                      generalize wr.alloc (.cells #[.int .i32 (y : Int), .int .i32 ny] 66) = w4 at *
                      clear d1 d2
                      obtain ⟨o, hod⟩ : ∃ o, o = 1 - side := ⟨_, rfl⟩
                      have ho2 : o < 2 := by omega
                      have hsub : (1 : Int) - (side : Int) = (o : Int) := by omega
                      have f1 : w4.cell? ⟨Bg, 3 + o, none⟩ = some (.slice (some ⟨S o, 0, none⟩) nn nn) := (HM4.out.pm.g.cell (by omega)).trans (congrArg some (gfun_seen _ _ _ _ _ _ o ho2))
                      have f2 : w4.cell? ⟨Bg, 2, none⟩ = some (.int .i64 (s + 1)) := HM4.out.pm.g.cell (by omega)
                      have f3 := (HM4.out.pm.sn o ho2).cell hyn
                      have HOD : Hid (o = 1 - side) := hod
                      clear hod
                      by_cases hmet : sv3 o y = s + 1
                      · have HMET : Hid (sv3 o y = s + 1) := hmet
                        rw [hmet] at f3
                        clear hmet
                        go_quiet (fail)
                        go_wp2_with fail
                        go_ret
                        exact ⟨true, r3, ys3, sv3, rfl, ⟨fun _ => HM4.out.pi.met HSY.out hside (HM4.out.edge side x hside (List.mem_of_getElem? HX.out)).2 HADJ.out (HOD.out ▸ HMET.out), fun _ => rfl⟩, HM4.out.pm.drewN _, HM4.out.le, HM4.out.good, fun e => absurd e hab⟩
                      · have hne : (sv3 o y == s + 1) = false := by simpa using hmet
                        have HNE : Hid (sv3 o y ≠ s + 1) := hmet
                        clear hmet
                        generalize sv3 o y = q0 at f3 hne
                        go_quiet (fail)
                        clear f1 f3 hne
                        go_upto_region 24 with (fail)
                        have HM5 : Hid (ML w base Bg Ba Bc nn cutv S (s + 1) c bs a b ys1 (.slice (some ⟨gE, 0, none⟩) (ys1 side).length capE) side (U nn (s + 1) sv1) ((ys1 4).length + 40 * k + j) k (w4.drewN nq) r3 ys3 sv3) := HM4.out.drewN nq
                        clear HM4 f2
                        generalize w4.drewN nq = w5 at *
                        have f1 : w5.cell? ⟨Bg, 3 + side, none⟩ = some (.slice (some ⟨S side, 0, none⟩) nn nn) := (HM5.out.pm.g.cell (by omega)).trans (congrArg some (gfun_seen _ _ _ _ _ _ side hside))
                        have f2 : w5.cell? ⟨Bg, 2, none⟩ = some (.int .i64 (s + 1)) := HM5.out.pm.g.cell (by omega)
                        have f3 := (HM5.out.pm.sn side hside).cell hyn
                        go_cut [145] (fun v wx => (v = .bool false ∧ (okOf bs y → sv3 side y = s + 1) ∨ v = .bool true ∧ okOf bs y ∧ sv3 side y ≠ s + 1) ∧ ∃ r ys, ML w base Bg Ba Bc nn cutv S (s + 1) c bs a b ys1 (.slice (some ⟨gE, 0, none⟩) (ys1 side).length capE) side (U nn (s + 1) sv1) ((ys1 4).length + 40 * k + j + 1) k wx r ys sv3)
                        case first =>
                          by_cases hseen : sv3 side y = s + 1
                          · have HSEEN : Hid (sv3 side y = s + 1) := hseen
                            rw [hseen] at f3
                            clear hseen
                            go_quiet (fail)
                            go_wp2_with fail
                            go_meet
                            case rel => go_light; exact ⟨.inl ⟨rfl, fun _ => HSEEN.out⟩, r3, ys3, (HM5.out.drewN _).more (by omega)⟩
                          · have hne : (sv3 side y != s + 1) = true := by simpa using hseen
                            have HNS : Hid (sv3 side y ≠ s + 1) := hseen
                            clear hseen
                            generalize hq1 : sv3 side y = q1 at f3 hne
                            clear hq1
                            have hkp := HM5.out.pm.drew.kp
                            have HB5 : Hid (BoolRow w5.drew base0 bv bs) := HBR.out.keep (fun k hk => hkp.block (by omega) (fun e => by have := H0.out k e; omega))
                            have HK5 : Hid (Blk w5.drew Bk 43 1 (fun _ => bv)) := HK.out.keep hkp hkb (HP.out.not_pw HK.out (by decide) (by decide) (by decide))
                            have HC5 := blocked_any w5.drew base0 base Bc Bk (r3 4) bv (ys3 4).length ((ys3 4).map nat64) bs y (by have := HM5.out.calls; have := HCL.out; have := HLn.out; omega) HM5.out.pm.drew.box HK5.out HB5.out (HM5.out.pm.drew.fam.1 4 (by omega)) (H0.out _ (.inr (.inr (.inr rfl)))) HM5.out.pm.lc hkb HM5.out.pm.drew.sz hb0
                            have HCC : Hid _ := HC5
                            clear HC5 hkp
                            obtain ⟨B, hB⟩ : ∃ B, B = bs.getD y false := ⟨_, rfl⟩
                            have HBL : Hid (B = bs.getD y false) := hB
                            rw [← hB] at HCC
                            clear hB
                            go_region_with (go_at_call 9; refine Calls.mono HCC.out ?_; rintro e w6 ⟨rfl, g', cap', q1, q2, q3, q4⟩; have HM6 : Hid _ := HM5.out.called hside hyn HNS.out (HOD.out ▸ HNE.out) (HM5.out.pm.drew.call q1 q2 q3 q4); clear q1 q2 q3 q4)
                            all_goals
                              go_wp2_with fail
                              go_meet
                              case rel =>
                                go_light
                                refine ⟨?_, _, _, HM6.out⟩
                                cases B
                                · exact .inr ⟨rfl, HBL.out.symm, HNS.out⟩
                                · exact .inl ⟨rfl, fun o => by have o : bs.getD y false = false := o; rw [← HBL.out] at o; cases o⟩
                        case rest =>
                          obtain ⟨hv, r4, ys4, hM⟩ := hcut
                          have HM7 : Hid (ML w base Bg Ba Bc nn cutv S (s + 1) c bs a b ys1 (.slice (some ⟨gE, 0, none⟩) (ys1 side).length capE) side (U nn (s + 1) sv1) ((ys1 4).length + 40 * k + j + 1) k wc r4 ys4 sv3) := hM
                          clear hM f1 f2 f3 HM5
                          have HYO : Hid (y ≠ ends a b (1 - side)) := fun e => HNE.out (by
                            have := HM7.out.pi.root o ho2
                            rw [← HOD.out] at e
                            rw [e]
                            exact this)
                          rcases hv with ⟨rfl, hv⟩ | ⟨rfl, hok, hns⟩
                          · have HV : Hid (okOf bs y → sv3 side y = s + 1) := hv
                            clear hv
                            go_wp2_with fail
                            go_roundg ((L x).length - (j + 1))
                            case measure => omega
                            case rel => go_light; exact ⟨j + 1, by go_num, by omega, rfl, r4, ys4, sv3, HM7.out, HPT.out.more HPj.out (fun _ h => h) ⟨HYO.out, HV.out⟩⟩
                          · have HOK : Hid (okOf bs y) := hok
                            have HNS : Hid (sv3 side y ≠ s + 1) := hns
                            clear hok hns
                            have hp7 := HM7.out.pm
                            have f1 : wc.cell? ⟨Bg, 3 + side, none⟩ = some (.slice (some ⟨S side, 0, none⟩) nn nn) := (hp7.g.cell (by omega)).trans (congrArg some (gfun_seen _ _ _ _ _ _ side hside))
                            have f2 : wc.cell? ⟨Bg, 2, none⟩ = some (.int .i64 (s + 1)) := hp7.g.cell (by omega)
                            have f3 := (hp7.sn side hside).cell hyn
                            have f4 := (hp7.sn side hside).frozen y
                            have hp8 := (hp7.mark (t := side) hside y (s + 1)).drew
                            obtain ⟨aoN, capN, hrN, _⟩ := owns_form (hp7.fam.1 (2 + side) (by omega))
                            replace hrN : r4 (2 + side) = .slice aoN (ys4 (2 + side)).length capN := hrN
                            have hNle : (ys4 (2 + side)).length ≤ 80 := by
                              have h1 := HM7.out.left
                              have h2 := @U_le nn (s + 1) sv1
                              omega
                            obtain ⟨g', cap', w9, hrun, e5, e6, hp9⟩ := hp8.drew.push (i := 2 + side) (by omega) y (zs := ys4 (2 + side)) (hp8.drew.fam.1 (2 + side) (by omega)) rfl (by omega)
                            have h57 : 5 + (2 + side) = 7 + side := by omega
                            have e7 : (wc.setCell ⟨S side, y, none⟩ (.int .i64 (s + 1))).cell? ⟨Bg, 5 + (2 + side), none⟩ = some (.slice aoN (ys4 (2 + side)).length capN) := (hp8.g.cell (by omega)).trans (congrArg some ((gfun_at _ _ _ _ _ _ _).trans hrN))
                            have e8 : ((wc.setCell ⟨S side, y, none⟩ (.int .i64 (s + 1))).alloc (.cells #[.int .i64 (y : Int)] 3)).cell? ⟨Bg, 5 + (2 + side), none⟩ = some (.slice aoN (ys4 (2 + side)).length capN) := ((hp8.g.alloc _).cell (by omega)).trans (congrArg some ((gfun_at _ _ _ _ _ _ _).trans hrN))
                            have hM9 := HM7.out.entered hside (List.mem_of_getElem? HX.out) HADJ.out HOK.out HNS.out hp9
                            rw [hrN] at hrun e5
                            rw [h57] at e5 e6 e7 e8 hM9
                            have HR : Hid _ := hrun
                            have HM9 : Hid _ := hM9
                            have hsz : (wc.setCell ⟨S side, y, none⟩ (.int .i64 (s + 1))).heap.size = wc.heap.size := by simp [World.setCell]
                            clear hrun hM9 hp7 hp8 hp9 hrN h57
                            generalize hSd : S side = Sd at *
                            generalize hnN : (ys4 (2 + side)).length = nN at *
                            go_upto_region 25 with (fail)
                            go_region
                            go_upto_region 26 with (fail)
                            go_region_law (refine step_append_eq rfl (.tmp 185) (.tmp 187) 48 48 rfl rfl (.slice aoN nN capN) (.slice (some ⟨(wc.setCell ⟨Sd, y, none⟩ (.int .i64 (s + 1))).heap.size, 0, none⟩) 1 1) _ w9 ?_ ?_ HR.out ?_; (first | exact rfl | simp [Act.eval]); (first | exact rfl | (rw [hsz]; exact rfl) | simp [Act.eval]))
                            all_goals
                              go_wp2_with fail
                              go_roundg ((L x).length - (j + 1))
                              case measure => omega
                              case rel => go_light; exact ⟨j + 1, by go_num, by omega, rfl, _, _, _, HM9.out, HPT.out.more HPj.out (fun _ h => sv_mark_of h) ⟨HYO.out, fun _ => by rw [sv_mark, if_pos ⟨rfl, rfl⟩]⟩⟩
                    · obtain rfl : j = (L x).length := by omega
                      go_wp2_with fail
                      go_roundg ((ys1 side).length - (k + 1))
                      case measure => omega
                      case rel => go_light; exact ⟨k + 1, by go_num, by omega, rfl, r3, ys3, sv3, (HM.out.step hside HX.out (HPT.out.exp (Nat.le_refl _) (HA.out.rep x hxn))).more (by have := HLn.out; omega)⟩
                · obtain rfl : k = (ys1 side).length := by omega
                  obtain ⟨aoN, capN, hrN, _⟩ := owns_form (HM.out.pm.fam.1 (2 + side) (by omega))
                  replace hrN : r2 (2 + side) = .slice aoN (ys2 (2 + side)).length capN := hrN
                  have hsw := (HM.out.pm.swap (i := side) (j := 2 + side) (by omega) (by omega) (by omega)).drew
                  have h57 : 5 + (2 + side) = 7 + side := by omega
                  rw [h57] at hsw
                  obtain ⟨m', hm', hOL⟩ := HM.out.over hside (Nat.le_refl _) (m := G) (by have := HCL.out; omega) HU0.out (by have := @U_le nn (s + 1) sv1; omega) (fun t ht => by match t, ht with | 0, _ => exact HE.out.1 | 1, _ => exact HE.out.2) hsw
                  have q1 := HM.out.cellR hside
                  have q2 : wr.frozen? ⟨Bg, 5 + side, none⟩ = false := HM.out.pm.g.frozen _
                  have q3 : wr.cell? ⟨Bg, 7 + side, none⟩ = some (.slice aoN (ys2 (2 + side)).length capN) := h57 ▸ ((HM.out.pm.g.cell (j := 5 + (2 + side)) (by omega)).trans (congrArg some ((gfun_at _ _ _ _ _ _ _).trans hrN)))
                  have q4 : wr.frozen? ⟨Bg, 7 + side, none⟩ = false := HM.out.pm.g.frozen _
                  rw [hrN, HM.out.re] at hOL
                  have HOL : Hid _ := hOL
                  clear hOL hsw h57 hrN HM
                  go_wp2_with fail
                  go_region
                  all_goals
                    go_wp2_with fail
                    go_roundg m'
                    case measure => rw [← HG.out]; exact hm'
                    case rel => go_light; exact ⟨_, _, _, HOL.out⟩

set_option maxRecDepth 100000 in
set_option maxHeartbeats 400000 in
theorem path_same (w : World) (base Bg Ba Bc Bk nn : Nat) (cutv : Value) (S : Nat → Nat) (s : Int) (r : Nat → Value) (ys : Nat → List Nat) (sv : Nat → Nat → Int) (c : Nat → Nat → Int) (bs : List Bool) (a : Nat)
    (hP : PM w base Bg Ba Bc nn cutv S w s r ys sv) (hsv : ∀ t x, t < 2 → x < nn → sv t x ≤ s) (hys : ys 4 = []) :
    Calls Yba.prog 11 #[.pointer (some ⟨Bg, 0, none⟩), .int .i64 (a : Int), .int .i64 (a : Int), .func (.func 9) #[] #[.pointer (some ⟨Bc, 0, none⟩), .pointer (some ⟨Bk, 0, none⟩)]] w (PathPost w base Bg Ba Bc nn cutv S s c bs a a) := by
  have HP : Hid (PathPost w base Bg Ba Bc nn cutv S s c bs a a (.returned (.bool true)) w) := ⟨true, r, ys, sv, rfl, ⟨fun _ => .inl rfl, fun _ => rfl⟩, hP, hsv, fun y hy => by (rw [hys] at hy; cases hy), fun _ => hys⟩
  clear hP hsv hys
  go_enter Yba.func11, Yba.ntmps11
  go_wp2_with fail
  go_ret
  exact HP.out
end Go.Proofs.Ybulkfeps.lawS7805BWhole
