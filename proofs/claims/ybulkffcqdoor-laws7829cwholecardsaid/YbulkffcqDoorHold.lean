import Derived.Test.YbulkffcqDoorSeq
namespace Go.Proofs.YbulkffcqDoor
open Go.RowKit Go.Shelf
attribute [local go_sem] Oper.semAt_some
set_option linter.unusedVariables false

/-- The search's parameters. -/
structure Par where
  Bo : Nat
  Bp : Nat
  Bs : Nat
  Bn : Nat
  Bg : Nat
  Gr : Nat
  N : Nat
  Bw : Nat
  Bm : Nat
  own : Nat
  m : Nat
  stop : Nat
  G : Nat → Nat
  ta : Nat → Addr
  md : Nat → Nat
  bf : Nat → Nat

def Par.ow (p : Par) : Option Addr := if p.own < p.N then some ⟨p.G p.own, 0, none⟩ else none
def Par.Y (p : Par) : Value := .func (.func 6) #[] #[.pointer (some ⟨p.Bo, 0, none⟩), .pointer (some ⟨p.Bs, 0, none⟩)]
def Par.L (p : Par) (k : Nat) : List Nat := Lk p.own p.m p.md p.bf k

structure Par.Ok (p : Par) : Prop where
  lay : Lay p.Bo p.Bp p.Bs p.Bn p.Bg p.Gr p.N p.G
  N : p.N ≤ 65536
  stop : p.stop ≤ 65537
  m : p.m ≤ 255
  md : ∀ j, p.md j ≤ 255
  bf : ∀ j, p.bf j ≤ 255
  w : p.Bo < p.Bw
  mm : p.Bo < p.Bm

/-- Between two rounds: q grants have been pulled, k of them judged. -/
structure Inv (p : Par) (w : World) (By : Nat) (q k : Nat) (W : World) : Prop where
  stat : Stat p.Bs p.Bn p.Bg p.Gr p.N p.stop p.G p.ta p.md p.bf W
  upto : Upto p.Bo p.Bp w W
  bp : Boxed W p.Bp 3 (.int .i64 (q : Int))
  bw : Boxed W p.Bw 36 (.pointer p.ow)
  bm : Boxed W p.Bm 35 (.int .u8 (p.m : Int))
  byy : Boxed W By 47 p.Y
  out : OutIs W p.Bo ((p.L k).map p.ta)

theorem OutIs.kept {W W' : World} {Bo : Nat} {L : List Addr} {row : Option Nat} (h : OutIs W Bo L) (hg : W.grownBy W' row) (hr : ∀ r, row = some r → ∃ o : Obj, W.heap[r]? = some o ∧ o.isCells = false) : OutIs W' Bo L := by
  have := holdsRow_own (β := Unit) Bo Bo 24 26 1 (fun _ => L.length) (fun _ => ptrs L) (fun _ _ => True) () W W' row
  obtain ⟨v, hv, hrow⟩ := h
  obtain ⟨v', h1, h2, _⟩ := this ⟨v, hv, hrow, trivial⟩ hg hr
  exact ⟨v', h1, h2⟩

theorem Inv.own (p : Par) (hp : p.Ok) (w : World) (By q B : Nat) (hB : p.Bo ≤ B) (R : Nat → Prop) : OwnFrom B (fun k W => Inv p w By q k W ∧ R k) := by
  rintro k W W' row ⟨h, hR⟩ hg hr
  have hr' : ∀ r, row = some r → ∃ o : Obj, W.heap[r]? = some o ∧ o.isCells = false := fun r e => (hr r e).2
  have hsz : p.Bo < W.heap.size := by obtain ⟨v, hv, _⟩ := h.out; exact hv.lt
  have box : ∀ {B t u}, Boxed W B t u → Boxed W' B t u := fun {B t u} hb => hb.kept hg (fun e => by
    obtain ⟨o, ho, hc⟩ := hr' B e.symm
    rw [show W.heap[B]? = _ from hb] at ho; cases ho; cases hc)
  have u : Upto p.Bo p.Bp w W' := h.upto.below ((Below.refl p.Bo W).grown hg (by omega) (fun r e => Nat.le_trans hB (hr r e).1))
  have u0 : Upto p.Bo p.Bp W W' := (Upto.refl _ _ W).below ((Below.refl p.Bo W).grown hg (by omega) (fun r e => Nat.le_trans hB (hr r e).1))
  exact ⟨⟨h.stat.upto hp.lay u0, u, box h.bp, box h.bw, box h.bm, box h.byy, h.out.kept hg hr'⟩, hR⟩

theorem Inv.pull {p : Par} (hp : p.Ok) {w : World} {By q k : Nat} {W : World} (h : Inv p w By q k W) (hBy : p.Bo < By) : Inv p w By (q + 1) k (W.setCell ⟨p.Bp, 0, none⟩ (.int .i64 ((q : Int) + 1))) := by
  have hgr := grownBy_setCell' W p.Bp (.int .i64 ((q : Int) + 1))
  have hL := hp.lay
  have box : ∀ {B t u}, p.Bo < B → Boxed W B t u → Boxed (W.setCell ⟨p.Bp, 0, none⟩ (.int .i64 ((q : Int) + 1))) B t u := fun {B t u} hlt hb => hb.kept hgr (by have := hL.p; simp; omega)
  refine ⟨h.stat.upto hp.lay ((Upto.refl _ _ W).setP 0 _), h.upto.setP 0 _, ?_, box hp.w h.bw, box hp.mm h.bm, box hBy h.byy, ?_⟩
  · have := h.bp.set (.int .i64 ((q : Int) + 1)); simpa using this
  · obtain ⟨v, hv, hrow⟩ := h.out
    refine ⟨v, hv.kept hgr (by have := hL.p; simp; omega), hrow.kept hgr ?_⟩
    exact .inr (h.bp.not_row (by decide) hrow).symm

theorem Inv.drew {p : Par} {w : World} {By q k : Nat} {W : World} (h : Inv p w By q k W) : Inv p w By q k W.drew :=
  ⟨⟨h.stat.n, h.stat.st, h.stat.g, h.stat.c, h.stat.glob, h.stat.gr⟩, ⟨h.upto.os, h.upto.tape, h.upto.output, h.upto.size, h.upto.block⟩, h.bp, h.bw, h.bm, h.byy, h.out⟩

theorem Inv.skip {p : Par} {w : World} {By q k : Nat} {W : World} (h : Inv p w By q k W) (hb : blkAt p.own p.m p.md p.bf k = false) : Inv p w By q (k + 1) W :=
  ⟨h.stat, h.upto, h.bp, h.bw, h.bm, h.byy, by rw [Par.L, Lk_no hb]; exact h.out⟩

theorem Inv.took {p : Par} (hp : p.Ok) {w : World} {By q k : Nat} {W W' : World} (h : Inv p w By q k W) (hBy : p.Bo < By) (hb : blkAt p.own p.m p.md p.bf k = true) (ho : OutIs W' p.Bo ((p.L k).map p.ta ++ [p.ta k])) (hk : Kept p.Bo W W') : Inv p w By q (k + 1) W' := by
  have hL := hp.lay
  have u0 : Upto p.Bo p.Bp W W' := (Upto.refl _ _ W).below hk.below
  have := hp.w
  have := hp.mm
  exact ⟨h.stat.upto hp.lay u0, h.upto.below hk.below, hk.box _ _ _ (by have := hL.p; omega) (by decide) h.bp, hk.box _ _ _ (by omega) (by decide) h.bw, hk.box _ _ _ (by omega) (by decide) h.bm, hk.box _ _ _ (by omega) (by decide) h.byy,
    by rw [Par.L, Lk_yes hb, List.map_append]; exact ho⟩

theorem Inv.fa {p : Par} {w : World} {By k : Nat} {W : World} (h : Inv p w By k k W) : ItFa p.Bn p.Bp p.Bg p.Gr p.N (fun j => ⟨p.G j, 0, none⟩) k W :=
  ⟨h.stat.n, h.bp.cell, h.bp.frozen, h.stat.g, h.stat.c⟩

theorem Inv.yieldOk {p : Par} (hp : p.Ok) {w : World} {By q k : Nat} {W : World} (h : Inv p w By q k W) (hk : k ≤ 65536) :
    Calls Ybad.prog 6 #[.pointer (some (p.ta k)), .pointer (some ⟨p.Bo, 0, none⟩), .pointer (some ⟨p.Bs, 0, none⟩)] W fun e W' => e = .returned (.bool (goOn p.stop ((p.L k).length + 1))) ∧ OutIs W' p.Bo ((p.L k).map p.ta ++ [p.ta k]) ∧ Kept p.Bo W W' := by
  have := yield_any (p.ta k) p.Bo p.Bs p.stop hp.stop ((p.L k).map p.ta) (by have := Lk_len p.own p.m p.md p.bf k; simp [Par.L]; omega) W h.out h.stat.st hp.lay.s.1
  simpa using this
end Go.Proofs.YbulkffcqDoor
