import Derived.Test.YbulkfepsBmain1
import Derived.Test.YbulkfepsBpath
namespace Go.Proofs.Ybulkfeps.lawS7805BWhole
open Go.ChangeShapes Go.WideShapes Go.ChangeAt Go.RowKit
set_option linter.unusedVariables false

section
variable {w0 : World} {base Bg Ba Bc nn : Nat} {cutv : Value} {S : Nat → Nat} {w w' : World} {s : Int} {r : Nat → Value} {ys : Nat → List Nat} {sv : Nat → Nat → Int}

/-- Through a call that leaves all that lay before. -/
theorem PM.below (h : PM w0 base Bg Ba Bc nn cutv S w s r ys sv) (hb : Below w.heap.size w w') : PM w0 base Bg Ba Bc nn cutv S w' s r ys sv := by
  have hk : ∀ k, k < w.heap.size → w'.heap[k]? = w.heap[k]? := fun k q => hb.block k q
  have hsz := h.sz
  have hs := hb.size
  exact ⟨h.g.frame (hk _ h.g.lt), fun t ht => (h.sn t ht).frame (hk _ (h.sn t ht).lt), h.fam.over (fun k _ q => hk k q), h.box.frame (hk _ h.box.lt), h.kp.trans ((Keep.ofBelow hb _).mono hsz (fun _ _ q => q)), by omega, h.lg, h.lc, h.ls, h.ns⟩

/-- The calls cut to nothing. -/
theorem PM.cut4 (h : PM w0 base Bg Ba Bc nn cutv S w s r ys sv) {ao : Option Addr} {n cap : Nat} (he : r 4 = .slice ao n cap) :
    PM w0 base Bg Ba Bc nn cutv S (w.setCell ⟨Bc, 0, none⟩ (.slice ao 0 cap)) s (upd r 4 (.slice ao 0 cap)) (upd ys 4 []) sv := by
  obtain ⟨h1, h2⟩ := h.fam.cutAt (i := 4) (by omega) he
  have hlc := h.lc
  refine ⟨?_, fun t ht => (h.sn t ht).other (Ne.symm (h.cS ht)) _, ?_, ?_, h.kp.setCell (.inr (.inr (.inr (.inr rfl)))) _, by have := h.sz; simp [World.setCell]; omega, h.lg, h.lc, h.ls, h.ns⟩
  · have := h.g.other (a := ⟨Bc, 0, none⟩) h.gc (.slice ao 0 cap)
    refine this.of_ext fun j hj => ?_
    match j, hj with
    | 0, _ => rfl
    | 1, _ => rfl
    | 2, _ => rfl
    | 3, _ => rfl
    | 4, _ => rfl
    | j + 5, hj => exact (upd_other r _ (show j ≠ 4 by omega)).symm
  · rw [(fam_upd 4 []).1, (fam_upd 4 []).2]
    have ht := h.fam.turn (w' := w) (i := 4) (by omega) h1 (fun _ _ _ _ => rfl) (fun k hk => .inl (h2 ▸ hk))
    exact ht.over (fun k hk _ => heap_setCell_other _ _ _ _ (by show k ≠ Bc; omega))
  · have := h.box.set 0 (.slice ao 0 cap)
    refine this.of_ext fun j hj => ?_
    obtain rfl : j = 0 := by omega
    rw [upd_same, upd_same]
end

/-- Where the searches begin. -/
theorem PM.start {w : World} {base0 Bk Bg Ba C nn : Nat} {bv : Value} {S : Nat → Nat} {wr : World} {cutv : Value} {cutL : List (Nat × Nat)} {av : Nat → Value} {L : Nat → List (Nat × Int)} {c : Nat → Nat → Int} (h : OS w base0 Bk Bg Ba C nn bv S wr cutv cutL av L c c) :
    PM (wr.alloc (.cells #[nilv] 48)) (wr.heap.size + 1) Bg Ba wr.heap.size nn cutv S (wr.alloc (.cells #[nilv] 48)) 0 (fun _ => nilv) (fun _ => []) (fun _ _ => 0) where
  g := h.gs.g.alloc _
  sn := fun t ht => (h.sn t ht).1.alloc _
  fam := ⟨fun i hi => World.ownsRow_nil _ _ _ _, fun i j _ _ _ k hk => by cases hk⟩
  box := heap_alloc_new wr _
  kp := Keep.refl _ _ _
  sz := by simp
  lg := Nat.lt_succ_of_lt h.gs.g.lt
  lc := Nat.lt_succ_self _
  ls := fun t ht => Nat.lt_succ_of_lt (h.sn t ht).1.lt
  ns := h.ns

theorem AdjIn.start {w : World} {base0 Bk Bg Ba C nn : Nat} {bv : Value} {S : Nat → Nat} {wr : World} {cutv : Value} {cutL : List (Nat × Nat)} {av : Nat → Value} {L : Nat → List (Nat × Int)} {c : Nat → Nat → Int} (h : OS w base0 Bk Bg Ba C nn bv S wr cutv cutL av L c c) :
    AdjIn (wr.alloc (.cells #[nilv] 48)) (wr.heap.size + 1) Ba nn av L c where
  blk := h.gs.adj.alloc _
  row := fun x hx => by
    have := (h.gs.fam.1 x hx).alloc (.cells #[nilv] 48)
    refine ⟨this.1, ?_⟩
    rcases this.2 with q | ⟨g, cap, cur, q1, _, q2⟩
    · exact .inl q
    · exact .inr ⟨g, cap, cur, q1, Nat.zero_le _, q2⟩
  rep := h.gs.rep
  la := Nat.lt_succ_of_lt h.gs.adj.lt
  lr := fun x k hx hk => Nat.lt_succ_of_lt ((h.gs.fam.1 x hx).lt k hk).2

/-- A row of another type stands through the searches. -/
theorem PM.row {w0 : World} {base Bg Ba Bc nn : Nat} {cutv : Value} {S : Nat → Nat} {w1 w' : World} {s s' : Int} {r r' : Nat → Value} {ys ys' : Nat → List Nat} {sv sv' : Nat → Nat → Int} (p : PM w0 base Bg Ba Bc nn cutv S w1 s r ys sv) (p' : PM w1 base Bg Ba Bc nn cutv S w' s' r' ys' sv')
    {lo size n : Nat} {e : TypeId} {v : Value} {xs : List Value} (h : w1.ownsRow lo e size v n xs) (hb : w1.heap.size ≤ base) (h1 : e ≠ 57) (h2 : e ≠ 3) (h3 : e ≠ 48) : w'.ownsRow lo e size v n xs :=
  owns_frame h (fun k hk => p'.kp.block (Nat.lt_of_lt_of_le (h.lt k hk).2 hb) (p.not_pw_row h hk h1 h2 h3))

section
variable {w : World} {base0 Bk Bg Ba C nn : Nat} {bv : Value} {S : Nat → Nat} {wr : World} {cutv : Value} {cutL : List (Nat × Nat)} {av : Nat → Value} {L : Nat → List (Nat × Int)} {c : Nat → Nat → Int} {w' : World} {s : Int} {r : Nat → Value} {ys : Nat → List Nat} {sv : Nat → Nat → Int}

theorem OS.pw (h : OS w base0 Bk Bg Ba C nn bv S wr cutv cutL av L c c) (k : Nat) (hk : PW Bg wr.heap.size S k) : w.heap.size ≤ k := by
  have h1 := h.lb
  have h2 := h.kb
  have h3 := h.gs.lg
  have h4 := (h.sn 0 (by omega)).2.1
  have h5 := (h.sn 1 (by omega)).2.1
  have h6 := h.gs.sz
  rcases hk with q | q | q | q <;> omega

theorem OS.counts (h : OS w base0 Bk Bg Ba C nn bv S wr cutv cutL av L c c) (p : PM (wr.alloc (.cells #[nilv] 48)) (wr.heap.size + 1) Bg Ba wr.heap.size nn cutv S w' s r ys sv) : CntIn w' (C + 1 + nn) C nn (fun x => C + 1 + x) c := by
  have hhi := h.hi
  have hC : ¬ PW Bg wr.heap.size S C := by
    rintro (q | q | q | q)
    · exact h.cn.2.1.ne h.gs.g (by decide) q
    · exact h.cn.2.1.ne (h.sn 0 (by omega)).1 (by decide) q
    · exact h.cn.2.1.ne (h.sn 1 (by omega)).1 (by decide) q
    · omega
  have hx : ∀ x, x < nn → ¬ PW Bg wr.heap.size S (C + 1 + x) := by
    rintro x hx (q | q | q | q)
    · exact (h.cn.2.2 x hx).2.ne h.gs.g (by decide) q
    · have := (h.sn 0 (by omega)).2.2; omega
    · have := (h.sn 1 (by omega)).2.2; omega
    · omega
  have h0 : CntIn (wr.alloc (.cells #[nilv] 48)) (C + 1 + nn) C nn (fun x => C + 1 + x) c := h.cn.keep (Below.heap_alloc _ _ _ h.cn.2.1.lt) (fun x hx' => Below.heap_alloc _ _ _ (h.cn.2.2 x hx').2.lt)
  exact h0.keep (p.kp.block (by omega) hC) (fun x hx' => p.kp.block (by show C + 1 + x < _; omega) (hx x hx'))
end
end Go.Proofs.Ybulkfeps.lawS7805BWhole
