import Derived.Test.YbulkfepsBlink
import Derived.BigRegion
namespace Go.Proofs.Ybulkfeps.lawS7805BWhole
open Go.ChangeShapes Go.WideShapes Go.ChangeAt Go.RowKit
set_option linter.unusedVariables false

set_option maxRecDepth 100000 in
set_option maxHeartbeats 4000000 in
theorem put_any (w : World) (base Bg Ba nn : Nat) (g : Nat → Value) (av : Nat → Value) (L : List (Nat × Int)) (c : Nat → Int) (a b : Nat) (d : Int)
    (hg : Blk w Bg 57 9 g) (hg0 : g 0 = .slice (some ⟨Ba, 0, none⟩) nn nn) (hA : Blk w Ba 64 nn av) (hrow : w.ownsRow base 66 2 (av a) L.length (linkCells L)) (hrep : RepL nn L c)
    (ha : a < nn) (hb : b < nn) (hnn : nn ≤ 40) (hd : -2 ≤ d ∧ d ≤ 2) (hcb : -100000 ≤ c b ∧ c b ≤ 100000) (hbase : base ≤ w.heap.size) :
    Calls Yba.prog 15 #[.pointer (some ⟨Bg, 0, none⟩), .int .i64 (a : Int), .int .i64 (b : Int), .int .i64 d] w (PutPost w base Ba nn av c a b d) := by
  obtain ⟨ao, cap, hv, hcap, _, hao, hao'⟩ := owns_form hrow
  have c1 : w.cell? ⟨Bg, 0, none⟩ = some (.slice (some ⟨Ba, 0, none⟩) nn nn) := (hg.cell (by omega)).trans (congrArg some hg0)
  have c2 : w.cell? ⟨Ba, a, none⟩ = some (.slice ao L.length cap) := (hA.cell ha).trans (congrArg some hv)
  have c3 : w.frozen? ⟨Ba, a, none⟩ = false := hA.frozen a
  have hLn : L.length ≤ nn := by have h1 := hrep.length; have h2 := nz_le c nn; omega
  have HA : Hid (Blk w Ba 64 nn av) := hA
  have HROW : Hid (w.ownsRow base 66 2 (.slice ao L.length cap) L.length (linkCells L)) := hv ▸ hrow
  have HREP : Hid (RepL nn L c) := hrep
  have HV : Hid (av a = .slice ao L.length cap) := hv
  have HAO : Hid (ao = none ∨ ∃ g, ao = some ⟨g, 0, none⟩) := hao
  have HAO' : Hid (ao = none → L.length = 0 ∧ cap = 0) := hao'
  have hgA : Bg ≠ Ba := hg.ne hA (by decide)
  have HGR : Hid (Blk w Bg 57 9 g ∧ g 0 = .slice (some ⟨Ba, 0, none⟩) nn nn) := ⟨hg, hg0⟩
  obtain ⟨hd1, hd2⟩ := hd
  obtain ⟨hc1, hc2⟩ := hcb
  clear hg hg0 hA hrow hrep hv hao hao'
  go_enter Yba.func15, Yba.ntmps15
  go_wp2_with fail
  go_loopw [21] (fun i wr => ∃ k : Nat, i = .int .i64 (k : Int) ∧ k ≤ L.length ∧ wr = w ∧ ∀ j p, j < k → L[j]? = some p → p.1 ≠ b) (fun i _ => L.length - (intOf i).toNat)
  case atStart => exact ⟨0, rfl, Nat.zero_le _, rfl, fun j p hj => absurd hj (Nat.not_lt_zero _)⟩
  case round =>
    obtain ⟨k, rfl, hkL, rfl, hno⟩ := hrel
    have HNO : Hid (∀ j p, j < k → L[j]? = some p → p.1 ≠ b) := hno
    clear hno
    by_cases hlt : k < L.length
    · obtain ⟨⟨y, m⟩, hp⟩ : ∃ p, L[k]? = some p := ⟨L[k], List.getElem?_eq_getElem hlt⟩
      obtain ⟨gL, rfl⟩ : ∃ g, ao = some ⟨g, 0, none⟩ := by
        rcases HAO.out with h | h
        · have := (HAO'.out h).1; omega
        · exact h
      have HPk : Hid (L[k]? = some (y, m)) := hp
      have hy := HREP.out.1 _ (List.mem_of_getElem? hp)
      have hyn : y < nn := hy.1
      have hym : m = c y := hy.2.1
      have d1 : wr.cell? ⟨gL, k * 2, none⟩ = some (.int .i32 (y : Int)) := owns_cell HROW.out (linkCells_at _ _ _ hp).1
      have d2 : wr.cell? ⟨gL, k * 2 + 1, none⟩ = some (.int .i32 m) := owns_cell HROW.out (linkCells_at _ _ _ hp).2
      have d3 := owns_frozen HROW.out (k * 2)
      have d4 := owns_frozen HROW.out (k * 2 + 1)
      clear hp hy
      by_cases hyb : y = b
      · subst hyb
        have hne : ((y : Int) != (y : Int)) = false := by simp
        have HCM : Hid (m = c y) := hym
        by_cases hz : m + d = 0
        · obtain ⟨n1, hn1⟩ : ∃ n1, n1 = L.length - 1 := ⟨_, rfl⟩
          have hn1L : n1 < L.length := by omega
          obtain ⟨⟨qy, qm⟩, hq⟩ : ∃ p, L[n1]? = some p := ⟨L[n1], List.getElem?_eq_getElem hn1L⟩
          have b1 : wr.cell? ⟨gL, n1 * 2, none⟩ = some (.int .i32 (qy : Int)) := owns_cell HROW.out (linkCells_at _ _ _ hq).1
          have b2 : wr.cell? ⟨gL, n1 * 2 + 1, none⟩ = some (.int .i32 qm) := owns_cell HROW.out (linkCells_at _ _ _ hq).2
          have hsub : (L.length : Int) - 1 = (n1 : Int) := by omega
          have hz' : ((m + d) == 0) = true := by simpa using hz
          have sl := sliceTo gL L.length n1 cap (by omega)
          have HZ : Hid (m + d = 0) := hz
          have HQ : Hid (L[L.length - 1]? = some (qy, qm)) := hn1 ▸ hq
          have HN1 : Hid (n1 = L.length - 1) := hn1
          rw [← hym] at hc1 hc2
          have hne2 : Ba ≠ gL := by
            intro e
            obtain ⟨cur, hcur⟩ := own_type HROW.out (k := gL) rfl
            rw [← e] at hcur
            have := hcur.symm.trans HA.out
            simp at this
          have hne3 : Bg ≠ gL := by
            intro e
            obtain ⟨cur, hcur⟩ := own_type HROW.out (k := gL) rfl
            rw [← e] at hcur
            have := hcur.symm.trans HGR.out.1
            simp at this
          have hA2 := (HA.out.other (a := ⟨gL, k * 2, none⟩) hne2 (.int .i32 (qy : Int))).other (a := ⟨gL, k * 2 + 1, none⟩) hne2 (.int .i32 qm)
          have hG2 := (HGR.out.1.other (a := ⟨gL, k * 2, none⟩) hne3 (.int .i32 (qy : Int))).other (a := ⟨gL, k * 2 + 1, none⟩) hne3 (.int .i32 qm)
          have b3 := (hG2.cell (j := 0) (by omega)).trans (congrArg some HGR.out.2)
          have b4 := (hA2.cell ha).trans (congrArg some HV.out)
          have b5 := hA2.frozen a
          have HPost : Hid (PutPost wr base Ba nn av c a y d (.returned (.int .i64 0)) (((wr.setCell ⟨gL, k * 2, none⟩ (.int .i32 (qy : Int))).setCell ⟨gL, k * 2 + 1, none⟩ (.int .i32 qm)).setCell ⟨Ba, a, none⟩ (.slice (some ⟨gL, 0, none⟩) n1 cap)).drew) := by
            refine ⟨by rw [← HCM.out, HZ.out], .slice (some ⟨gL, 0, none⟩) n1 cap, (L.set k (qy, qm)).take (L.length - 1), ?_, ?_, ?_, ?_, ?_⟩
            · exact hA2.set a _
            · have o1 := owns_cut (m := n1) (owns_set (owns_set HROW.out (k * 2) (.int .i32 (qy : Int))) (k * 2 + 1) (.int .i32 qm)) (by omega)
              rw [← linkCells_set, ← linkCells_take] at o1
              have hl : ((L.set k (qy, qm)).take (L.length - 1)).length = n1 := by rw [List.length_take, List.length_set]; omega
              rw [hl, ← HN1.out]
              refine owns_frame o1 (fun q hq => heap_setCell_other _ _ _ _ ?_)
              have hq : some gL = some q := hq
              cases hq
              exact hne2.symm
            · exact HREP.out.drop HPk.out HZ.out HQ.out
            · intro q hq
              rw [HV.out]
              exact .inl hq
            · refine ((((Keep.refl _ _ _).setCell (.inr (.inl ?_)) _).setCell (.inr (.inl ?_)) _).setCell (.inr (.inr rfl)) _).drew
              · rw [HV.out]; rfl
              · rw [HV.out]; rfl
          clear hym hz hn1 hq hA2 hG2
          go_wp2_with fail
          go_region
          go_wp2_with fail
          go_ret
          exact HPost.out
        · have hz' : ((m + d) == 0) = false := by simpa using hz
          rw [← hym] at hc1 hc2
          have HPost : Hid (PutPost wr base Ba nn av c a y d (.returned (.int .i64 (m + d))) (wr.setCell ⟨gL, k * 2 + 1, none⟩ (.int .i32 (m + d)))) := by
            have hne2 : Ba ≠ gL := by
              intro e
              obtain ⟨cur, hcur⟩ := own_type HROW.out (k := gL) rfl
              rw [← e] at hcur
              have := hcur.symm.trans HA.out
              simp at this
            refine ⟨by rw [HCM.out], .slice (some ⟨gL, 0, none⟩) L.length cap, L.set k (y, m + d), ?_, ?_, ?_, ?_, ?_⟩
            · rw [← HV.out, upd_self]
              exact HA.out.other hne2 _
            · rw [linkCells_set_n _ _ _ _ _ HPk.out, List.length_set]
              exact owns_set HROW.out _ _
            · exact HREP.out.set HPk.out hz
            · intro q hq
              rw [HV.out]
              exact .inl hq
            · refine (Keep.refl _ _ _).setCell (.inr (.inl ?_)) _
              rw [HV.out]
              rfl
          clear hym
          go_wp2_with fail
          go_ret
          exact HPost.out
      · have hne : ((y : Int) != (b : Int)) = true := by simp; omega
        clear hym
        go_wp2_with fail
        go_roundw
        case rel =>
          go_light
          refine ⟨k + 1, by go_num, by omega, by trivial, fun j p hj hp => ?_⟩
          by_cases e : j = k
          · subst e
            rw [HPk.out] at hp
            cases hp
            exact hyb
          · exact HNO.out j p (by omega) hp
        case measure => simp [intOf]; omega
    · obtain rfl : k = L.length := by omega
      have hnone : ∀ p, p ∈ L → p.1 ≠ b := fun p hp => by
        obtain ⟨j, hj⟩ := List.mem_iff_getElem?.1 hp
        exact HNO.out j p (List.getElem?_eq_some_iff.1 hj).1 hj
      have hcz : c b = 0 := HREP.out.zero hb hnone
      by_cases hd0 : d = 0
      · have HPost : Hid (PutPost wr base Ba nn av c a b d (.returned (.int .i64 d)) wr) := by
          refine ⟨by rw [hcz, Int.zero_add], av a, L, by rw [upd_self]; exact HA.out, by rw [HV.out]; exact HROW.out, HREP.out.same b hd0, fun q hq => .inl hq, Keep.refl _ _ _⟩
        clear hcz hnone
        subst hd0
        go_wp2_with fail
        go_ret
        exact HPost.out
      · have hd' : (d != 0) = true := by simpa using hd0
        have hrow := HROW.out
        obtain ⟨g', cap', w3, hrun, o1, hk, htell⟩ := push_link wr.drew base (.slice ao L.length cap) L b d (owns_frame hrow (fun _ _ => rfl)) (by omega) hbase
        have hvb : ∀ q, (Value.slice ao L.length cap).ownBlock = some q → q ≠ Ba := fun q hq => own_ne hrow hq HA.out (by decide)
        have hA3 := (HA.out.drew).keep hk HA.out.lt (fun e => hvb _ e rfl)
        have b1 := (hA3.cell ha).trans (congrArg some HV.out)
        have b2 := hA3.frozen a
        have b3 : (wr.alloc (.cells #[.int .i32 (b : Int), .int .i32 d] 66)).cell? ⟨Bg, 0, none⟩ = some (.slice (some ⟨Ba, 0, none⟩) nn nn) := ((HGR.out.1.alloc _).cell (by omega)).trans (congrArg some HGR.out.2)
        have hg3 := HGR.out.1.drew.keep hk HGR.out.1.lt (fun e => own_ne hrow e HGR.out.1 (by decide) rfl)
        have b4 := (hg3.cell (j := 0) (by omega)).trans (congrArg some HGR.out.2)
        have HPost : Hid (PutPost wr base Ba nn av c a b d (.returned (.int .i64 d)) (w3.setCell ⟨Ba, a, none⟩ (.slice (some ⟨g', 0, none⟩) (L.length + 1) cap'))) := by
          refine ⟨by rw [hcz, Int.zero_add], _, L ++ [(b, d)], hA3.set a _, ?_, HREP.out.push hb hnone hd0, ?_, ?_⟩
          · refine owns_frame o1 (fun q hq => heap_setCell_other _ _ _ _ ?_)
            have hq : some g' = some q := hq
            cases hq
            rcases htell with h | h
            · exact hvb _ h
            · have := HA.out.lt
              have h : wr.heap.size ≤ g' := h
              show g' ≠ Ba
              omega
          · intro q hq
            have hq : some g' = some q := hq
            cases hq
            rw [HV.out]
            exact htell
          · refine Keep.setCell ?_ (.inr (.inr rfl)) _
            rw [HV.out]
            exact hk.mono (Nat.le_refl _) (fun q _ e => .inl e)
        have wb : IntKind.i32.wrap (b : Int) = (b : Int) := by rw [IntKind.wrap_i32]; omega
        have wd : IntKind.i32.wrap d = d := by rw [IntKind.wrap_i32]; omega
        have HR : Hid _ := hrun
        clear hcz hnone hrun hrow o1 hk htell hvb hA3 hg3
        go_wp2_with fail
        go_region_law (refine step_append_eq rfl (.tmp 77) (.tmp 83) 64 64 rfl rfl (.slice ao L.length cap) (.slice (some ⟨wr.drew.heap.size, 0, none⟩) 1 1) _ w3 ?_ ?_ HR.out ?_; (first | exact rfl | simp [Act.eval]); (first | exact rfl | simp [Act.eval]))
        all_goals
          go_wp2_with fail
          go_ret
          exact HPost.out
end Go.Proofs.Ybulkfeps.lawS7805BWhole
