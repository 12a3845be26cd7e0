import Derived.Test.YbulkffcqDoorHold
namespace Go.Proofs.YbulkffcqDoor
open Go.RowKit Go.Shelf
attribute [local go_sem] Oper.semAt_some
set_option linter.unusedVariables false

/-- How the search ends: K grants have been pulled. -/
def Ends (p : Par) (K : Nat) : Prop := (K = p.N ∧ goOn p.stop (p.L p.N).length = true) ∨ ∃ k, k < p.N ∧ K = k + 1 ∧ goOn p.stop (p.L k).length = true ∧ goOn p.stop (p.L (k + 1)).length = false

structure After (p : Par) (w : World) (W : World) : Prop where
  ends : ∃ K, Ends p K ∧ Boxed W p.Bp 3 (.int .i64 (K : Int)) ∧ OutIs W p.Bo ((p.L K).map p.ta)
  upto : Upto p.Bo p.Bp w W

theorem goOn_zero (p : Par) : goOn p.stop (p.L 0).length = true := by
  show goOn p.stop 0 = true
  rw [goOn, Bool.or_eq_true, decide_eq_true_eq, decide_eq_true_eq]
  omega

set_option maxRecDepth 100000 in
set_option maxHeartbeats 2000000 in
theorem hold_any (p : Par) (hp : p.Ok) (Bh : Nat) (w : World) (hst : Stat p.Bs p.Bn p.Bg p.Gr p.N p.stop p.G p.ta p.md p.bf w) (bp : Boxed w p.Bp 3 (.int .i64 0))
    (bh : Boxed w Bh 51 (.func (.func 4) #[] #[.pointer (some ⟨p.Bn, 0, none⟩), .pointer (some ⟨p.Bp, 0, none⟩), .pointer (some ⟨p.Bg, 0, none⟩)]))
    (bw : Boxed w p.Bw 36 (.pointer p.ow)) (bm : Boxed w p.Bm 35 (.int .u8 (p.m : Int))) (out : OutIs w p.Bo []) :
    Calls Ybad.prog 8 #[.func (.func 6) #[] #[.pointer (some ⟨p.Bo, 0, none⟩), .pointer (some ⟨p.Bs, 0, none⟩)], .pointer (some ⟨Bh, 0, none⟩), .pointer (some ⟨p.Bw, 0, none⟩), .pointer (some ⟨p.Bm, 0, none⟩)] w fun e W' => e = .returned (.tuple #[]) ∧ After p w W' := by
  have hBo : p.Bo < w.heap.size := by obtain ⟨v, hv, _⟩ := out; exact hv.lt
  have hbh := (bh.alloc (.cells #[.func (.func 6) #[] #[.pointer (some ⟨p.Bo, 0, none⟩), .pointer (some ⟨p.Bs, 0, none⟩)]] 47)).cell
  have hby := Boxed.new w 47 (.func (.func 6) #[] #[.pointer (some ⟨p.Bo, 0, none⟩), .pointer (some ⟨p.Bs, 0, none⟩)])
  have hI0 : Inv p w w.heap.size 0 0 (w.alloc (.cells #[.func (.func 6) #[] #[.pointer (some ⟨p.Bo, 0, none⟩), .pointer (some ⟨p.Bs, 0, none⟩)]] 47)) := by
    have u : Upto p.Bo p.Bp w (w.alloc (.cells #[.func (.func 6) #[] #[.pointer (some ⟨p.Bo, 0, none⟩), .pointer (some ⟨p.Bs, 0, none⟩)]] 47)) := (Upto.refl _ _ w).below ((Below.refl _ w).alloc (Nat.le_of_lt hBo) _)
    refine ⟨hst.upto hp.lay u, u, bp.alloc _, bw.alloc _, bm.alloc _, hby, ?_⟩
    exact out.kept (World.grownBy_alloc w _ none) (fun r e => by cases e)
  have HI0 : Hid (Inv p w w.heap.size 0 0 (w.alloc (.cells #[.func (.func 6) #[] #[.pointer (some ⟨p.Bo, 0, none⟩), .pointer (some ⟨p.Bs, 0, none⟩)]] 47))) := hI0
  clear hI0 hby bp bw bm out hst bh
  have HP : Hid p.Ok := hp
  have HN : p.N ≤ 65536 := hp.N
  clear hp
  refine (callsIn_wide (n := 5)).1 ?_
  refine callsIn_of_wp_marks Ybad.func8 rfl trivial ?_ rfl
  simp only [Ybad.ntmps8, List.size_toArray, List.length_cons, List.length_nil, Nat.reduceAdd, Nat.reduceSub, Array.replicate_succ, Array.replicate_zero, List.push_toArray, List.append_toArray, List.nil_append, List.cons_append]
  gi_wp2
  refine wpIn_rangeFunc_pulls rfl (by omega) (gf := 4) (lb := #[.pointer (some ⟨p.Bn, 0, none⟩), .pointer (some ⟨p.Bp, 0, none⟩), .pointer (some ⟨p.Bg, 0, none⟩)]) rfl trivial (enters_of Ybad.func4 (by kernel_rfl) rfl)
    (iter_in 4 (by omega) p.Bn p.Bp p.Bg p.Gr p.N (fun j => ⟨p.G j, 0, none⟩) HN HP.out.lay.n.2.symm HP.out.lay.g.2.symm HP.out.lay.r.2.symm) (fun _ => rfl)
    (fun k W => Inv p w w.heap.size k k W ∧ goOn p.stop (p.L k).length = true)
    (fun k W => Inv p w w.heap.size (k + 1) k W ∧ goOn p.stop (p.L k).length = true)
    (fun c k W => Inv p w w.heap.size k k W ∧ (c = .ret ∧ ∃ j, j < p.N ∧ k = j + 1 ∧ goOn p.stop (p.L j).length = true ∧ goOn p.stop (p.L k).length = false))
    ?own1 ?own2 ?own3 (fun k W h => h.1.fa) (fun k W h => ⟨KeepsOthers.setCell _ _ _, h.1.pull HP.out hBo, h.2⟩) ⟨HI0.out, goOn_zero p⟩
    (fun k => { tmps := #[.func (.func 6) #[] #[.pointer (some ⟨p.Bo, 0, none⟩), .pointer (some ⟨p.Bs, 0, none⟩)], .pointer (some ⟨Bh, 0, none⟩), .pointer (some ⟨p.Bw, 0, none⟩), .pointer (some ⟨p.Bm, 0, none⟩), .pointer (some ⟨w.heap.size, 0, none⟩), .pointer (some ⟨p.G k, 0, none⟩), .func (.func 4) #[] #[.pointer (some ⟨p.Bn, 0, none⟩), .pointer (some ⟨p.Bp, 0, none⟩), .pointer (some ⟨p.Bg, 0, none⟩)], .pointer (some ⟨p.G k, 0, none⟩), undef, undef, undef, undef, undef, undef, undef, undef, undef, undef, undef, undef, undef, undef, undef, undef, undef], defers := [] }) ?assign ?body ?done ?stop
  case own1 =>
    intro k W W' row h hg hr
    exact Inv.own p HP.out w w.heap.size k _ (by simp; omega) (fun k => goOn p.stop (p.L k).length = true) k W W' row h hg hr
  case own2 =>
    intro k W W' row h hg hr
    exact Inv.own p HP.out w w.heap.size (k + 1) _ (by simp; omega) (fun k => goOn p.stop (p.L k).length = true) k W W' row h hg hr
  case own3 =>
    intro c k W W' row h hg hr
    exact Inv.own p HP.out w w.heap.size k _ (by simp; omega) (fun k => c = .ret ∧ ∃ j, j < p.N ∧ k = j + 1 ∧ goOn p.stop (p.L j).length = true ∧ goOn p.stop (p.L k).length = false) k W W' row h hg hr
  case assign =>
    intro l k W K hK
    gi_wp2
    exact hK
  case body =>
    rintro l k W ⟨hI, hgo⟩ hlt
    have hd : 1 ≤ 5 - 1 - 1 := by omega
    have hwf : ∀ f, Fence.wide.fn f := fun _ => trivial
    have hmx : Ybad.prog.follows .mixedOrders = true := by kernel_rfl
    have hcw := hI.bw.cell
    have hcm := hI.bm.cell
    have hcy : W.cell? ⟨w.heap.size, 0, none⟩ = some (.func (.func 6) #[] #[.pointer (some ⟨p.Bo, 0, none⟩), .pointer (some ⟨p.Bs, 0, none⟩)]) := hI.byy.cell
    have HI : Hid (Inv p w w.heap.size (k + 1) k W) := hI
    have HGO : Hid (goOn p.stop (p.L k).length = true) := hgo
    have hok := own_test hI.drew.stat HP.out.lay.inj p.own k hlt
    rw [show (if p.own < p.N then some (⟨p.G p.own, 0, none⟩ : Addr) else none) = p.ow from rfl] at hok
    obtain ⟨cs, hblk, hc1, hc5, hc6⟩ := hI.stat.gr k hlt
    have hg1 : W.cell? ⟨p.G k, 1, none⟩ = some (.pointer (some (p.ta k))) := by rw [cell_of_row _ _ _ _ _ _ hblk]; exact hc1
    have hg5 : W.cell? ⟨p.G k, 5, none⟩ = some (.int .u8 (p.md k : Int)) := by rw [cell_of_row _ _ _ _ _ _ hblk]; exact hc5
    have hg6 : W.cell? ⟨p.G k, 6, none⟩ = some (.int .u8 (p.bf k : Int)) := by rw [cell_of_row _ _ _ _ _ _ hblk]; exact hc6
    clear hI hgo HI0 hblk hc1 hc5 hc6
    by_cases ho : k = p.own
    · have hb : blkAt p.own p.m p.md p.bf k = false := by simp [blkAt, ho]
      have HB : Hid (blkAt p.own p.m p.md p.bf k = false) := hb
      rw [show decide (k ≠ p.own) = false from by simp [ho]] at hok
      have HO : Hid (k = p.own) := ho
      clear hb ho
      gi_wp2
      gi_region_with_o fail
      all_goals gi_wp2
      all_goals exact ⟨KeepsOthers.drew _, (HI.out.skip HB.out).drew, by rw [Par.L, Lk_no HB.out]; exact HGO.out⟩
    · rw [show decide (k ≠ p.own) = true from by simp [ho]] at hok
      have HO : Hid (¬ k = p.own) := ho
      cases hbb : blkB p.m (p.md k) (p.bf k) with
      | false =>
        have hb : blkAt p.own p.m p.md p.bf k = false := by simp [blkAt, hbb]
        have HB : Hid (blkAt p.own p.m p.md p.bf k = false) := hb
        clear hb ho
        gi_wp2
        gi_region_with_o (gi_at_call 9; refine (CallsIn.inRound l (callsIn_wide.2 (blocks_any (p.G k) p.m (p.md k) (p.bf k) HP.out.m (HP.out.md _) (HP.out.bf _) _ HI.out.drew.stat.glob hg5 hg6))).mono ?_; rw [hbb]; rintro e w' ⟨rfl, rfl⟩)
        all_goals gi_wp2
        all_goals exact ⟨KeepsOthers.drew _, (HI.out.skip HB.out).drew, by rw [Par.L, Lk_no HB.out]; exact HGO.out⟩
      | true =>
        have hb : blkAt p.own p.m p.md p.bf k = true := by simp [blkAt, hbb, ho]
        have HB : Hid (blkAt p.own p.m p.md p.bf k = true) := hb
        have hlen : (p.L (k + 1)).length = (p.L k).length + 1 := by rw [Par.L, Lk_yes hb]; simp [Par.L]
        have HLN : Hid ((p.L (k + 1)).length = (p.L k).length + 1) := hlen
        clear hb ho hlen
        gi_wp2
        gi_region_with_o (first | (gi_at_call 9; refine (CallsIn.inRound l (callsIn_wide.2 (blocks_any (p.G k) p.m (p.md k) (p.bf k) HP.out.m (HP.out.md _) (HP.out.bf _) _ HI.out.drew.stat.glob hg5 hg6))).mono ?_; rw [hbb]; rintro e w' ⟨rfl, rfl⟩) | (gi_at_call 6; refine (CallsIn.inRound l (callsIn_wide.2 (HI.out.drew.yieldOk HP.out (by omega)))).mono ?_; rintro e w' ⟨rfl, hout, hkept⟩))
        all_goals cases hgn : goOn p.stop ((p.L k).length + 1)
        all_goals gi_wp2
        all_goals first
          | exact ⟨(KeepsOthers.drew _).trans hkept.others, HI.out.drew.took HP.out hBo HB.out hout hkept, by rw [HLN.out]; exact hgn⟩
          | exact ⟨(KeepsOthers.drew _).trans hkept.others, HI.out.drew.took HP.out hBo HB.out hout hkept, rfl, k, hlt, rfl, HGO.out, by rw [HLN.out]; exact hgn⟩
  case done =>
    rintro D W hD ⟨hI, hgo⟩ hK
    gi_wp2
    have hI2 := (Inv.own p HP.out w w.heap.size p.N w.heap.size (by omega) (fun _ => True)).putObj (.deferred none) ⟨hI, trivial⟩ (by simp at hD; omega) hK rfl
    refine ⟨by simp, .inl ⟨_, _, rfl, run_takeDeferred hK, ?_⟩⟩
    exact ⟨_, results_none rfl _ _ _, rfl, ⟨p.N, .inl ⟨rfl, hgo⟩, hI2.1.bp, hI2.1.out⟩, hI2.1.upto⟩
  case stop =>
    rintro D c k W hD hkN ⟨hI, rfl, j, hj, hkj, hg1, hg2⟩ hK
    gi_wp2
    have hI2 := (Inv.own p HP.out w w.heap.size (k + 1) w.heap.size (by omega) (fun _ => True)).putObj (.deferred none) ⟨hI, trivial⟩ (by simp at hD; omega) hK rfl
    refine ⟨by simp, .inl ⟨_, _, rfl, run_takeDeferred hK, ?_⟩⟩
    exact ⟨_, results_none rfl _ _ _, rfl, ⟨k + 1, .inr ⟨k, hkN, rfl, by obtain rfl : k = j := by { omega }; exact hg1, hg2⟩, hI2.1.bp, hI2.1.out⟩, hI2.1.upto⟩
end Go.Proofs.YbulkffcqDoor
