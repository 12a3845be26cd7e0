import Derived.Test.YbulkfepsBreach
namespace Go.Proofs.Ybulkfeps.lawS7805BWhole
open Go.ChangeShapes Go.WideShapes Go.ChangeAt Go.RowKit
set_option linter.unusedVariables false

/-- The nine cells of the graph's struct; from the fifth on: the two frontiers, then the two next ones. -/
def gfun (Ba nn : Nat) (cutv : Value) (s : Int) (S : Nat → Nat) (r : Nat → Value) : Nat → Value
  | 0 => .slice (some ⟨Ba, 0, none⟩) nn nn
  | 1 => cutv
  | 2 => .int .i64 s
  | 3 => .slice (some ⟨S 0, 0, none⟩) nn nn
  | 4 => .slice (some ⟨S 1, 0, none⟩) nn nn
  | j + 5 => r j

section
variable (Ba nn : Nat) (cutv : Value) (s : Int) (S : Nat → Nat) (r : Nat → Value)
theorem gfun_row (i : Nat) (v : Value) : upd (gfun Ba nn cutv s S r) (5 + i) v = gfun Ba nn cutv s S (upd r i v) := by
  funext j
  match j with
  | 0 | 1 | 2 | 3 | 4 => rw [upd_other _ _ (by omega)]; rfl
  | j + 5 =>
    by_cases e : j = i
    · subst e
      rw [Nat.add_comm 5, upd_same]
      exact (upd_same r j v).symm
    · rw [upd_other _ _ (by omega)]
      exact (upd_other r v e).symm
theorem gfun_search (s' : Int) : upd (gfun Ba nn cutv s S r) 2 (.int .i64 s') = gfun Ba nn cutv s' S r := by
  funext j
  match j with
  | 2 => rw [upd_same]; rfl
  | 0 | 1 | 3 | 4 => rw [upd_other _ _ (by omega)]; rfl
  | j + 5 => rw [upd_other _ _ (by omega)]; rfl
theorem gfun_cut (v : Value) : upd (gfun Ba nn cutv s S r) 1 v = gfun Ba nn v s S r := by
  funext j
  match j with
  | 1 => rw [upd_same]; rfl
  | 0 | 2 | 3 | 4 => rw [upd_other _ _ (by omega)]; rfl
  | j + 5 => rw [upd_other _ _ (by omega)]; rfl
theorem gfun_at (i : Nat) : gfun Ba nn cutv s S r (5 + i) = r i := by rw [Nat.add_comm]; rfl
theorem gfun_seen (t : Nat) (h : t < 2) : gfun Ba nn cutv s S r (3 + t) = .slice (some ⟨S t, 0, none⟩) nn nn := by
  match t, h with
  | 0, _ => rfl
  | 1, _ => rfl
end

/-- What a search may write under block base. -/
def PW (Bg Bc : Nat) (S : Nat → Nat) (k : Nat) : Prop := k = Bg ∨ k = S 0 ∨ k = S 1 ∨ k = Bc

theorem PW.seen {Bg Bc : Nat} {S : Nat → Nat} {t : Nat} (h : t < 2) : PW Bg Bc S (S t) := by
  match t, h with
  | 0, _ => exact .inr (.inl rfl)
  | 1, _ => exact .inr (.inr (.inl rfl))

/-- The memory that a search turns. r: the rows' values (the frontiers 0, 1; the next ones 2, 3; the calls 4), ys: what they hold. -/
structure PM (w0 : World) (base Bg Ba Bc nn : Nat) (cutv : Value) (S : Nat → Nat) (w : World) (s : Int) (r : Nat → Value) (ys : Nat → List Nat) (sv : Nat → Nat → Int) : Prop where
  g : Blk w Bg 57 9 (gfun Ba nn cutv s S r)
  sn : ∀ t, t < 2 → Blk w (S t) 3 nn (fun x => .int .i64 (sv t x))
  fam : Fam w base 3 1 5 r (fun i => (ys i).map nat64) (fun i => (ys i).length)
  box : Blk w Bc 48 1 (fun _ => r 4)
  kp : Keep base (PW Bg Bc S) w0 w
  sz : base ≤ w.heap.size
  lg : Bg < base
  lc : Bc < base
  ls : ∀ t, t < 2 → S t < base
  ns : S 0 ≠ S 1

theorem Blk.ne {w : World} {b b' n n' : Nat} {e e' : TypeId} {g g' : Nat → Value} (h : Blk w b e n g) (h' : Blk w b' e' n' g') (he : e ≠ e') : b ≠ b' := by
  intro q
  subst q
  have := h.symm.trans h'
  simp only [Option.some.injEq, Obj.cells.injEq] at this
  exact he this.2.1

section
variable {w0 : World} {base Bg Ba Bc nn : Nat} {cutv : Value} {S : Nat → Nat} {w w' : World} {s : Int} {r : Nat → Value} {ys : Nat → List Nat} {sv : Nat → Nat → Int}

theorem PM.drew (h : PM w0 base Bg Ba Bc nn cutv S w s r ys sv) : PM w0 base Bg Ba Bc nn cutv S w.drew s r ys sv := ⟨h.g, h.sn, h.fam, h.box, h.kp.drew, h.sz, h.lg, h.lc, h.ls, h.ns⟩
theorem PM.drewN (h : PM w0 base Bg Ba Bc nn cutv S w s r ys sv) (k : Nat) : PM w0 base Bg Ba Bc nn cutv S (w.drewN k) s r ys sv := ⟨h.g, h.sn, h.fam, h.box, h.kp.drewN k, h.sz, h.lg, h.lc, h.ls, h.ns⟩

theorem PM.gS (h : PM w0 base Bg Ba Bc nn cutv S w s r ys sv) {t : Nat} (ht : t < 2) : Bg ≠ S t := h.g.ne (h.sn t ht) (by decide)
theorem PM.gc (h : PM w0 base Bg Ba Bc nn cutv S w s r ys sv) : Bg ≠ Bc := h.g.ne h.box (by decide)
theorem PM.cS (h : PM w0 base Bg Ba Bc nn cutv S w s r ys sv) {t : Nat} (ht : t < 2) : Bc ≠ S t := h.box.ne (h.sn t ht) (by decide)
theorem PM.SS (h : PM w0 base Bg Ba Bc nn cutv S w s r ys sv) {t u : Nat} (ht : t < 2) (hu : u < 2) (e : t ≠ u) : S t ≠ S u := by
  have := h.ns
  match t, u, ht, hu with
  | 0, 0, _, _ => exact absurd rfl e
  | 0, 1, _, _ => exact this
  | 1, 0, _, _ => exact this.symm
  | 1, 1, _, _ => exact absurd rfl e

theorem PM.alloc (h : PM w0 base Bg Ba Bc nn cutv S w s r ys sv) (o : Obj) : PM w0 base Bg Ba Bc nn cutv S (w.alloc o) s r ys sv :=
  ⟨h.g.alloc o, fun t ht => (h.sn t ht).alloc o, h.fam.over fun k _ hk => Below.heap_alloc w o k hk, h.box.alloc o, h.kp.alloc h.sz o, by have := h.sz; simp; omega, h.lg, h.lc, h.ls, h.ns⟩

theorem PM.search (h : PM w0 base Bg Ba Bc nn cutv S w s r ys sv) (s' : Int) : PM w0 base Bg Ba Bc nn cutv S (w.setCell ⟨Bg, 2, none⟩ (.int .i64 s')) s' r ys sv where
  g := by have := h.g.set 2 (.int .i64 s'); rwa [gfun_search] at this
  sn := fun t ht => (h.sn t ht).other (Ne.symm (h.gS ht)) _
  fam := h.fam.over fun k hk _ => heap_setCell_other _ _ _ _ (by have := h.lg; show k ≠ Bg; omega)
  box := h.box.other (Ne.symm h.gc) _
  kp := h.kp.setCell (.inr (.inl rfl)) _
  sz := by have := h.sz; simp [World.setCell]; omega
  lg := h.lg
  lc := h.lc
  ls := h.ls
  ns := h.ns

theorem PM.mark (h : PM w0 base Bg Ba Bc nn cutv S w s r ys sv) {t : Nat} (ht : t < 2) (y : Nat) (n : Int) : PM w0 base Bg Ba Bc nn cutv S (w.setCell ⟨S t, y, none⟩ (.int .i64 n)) s r ys (upd sv t (upd (sv t) y n)) where
  g := h.g.other (h.gS ht) _
  sn := fun u hu => by
    by_cases e : u = t
    · subst e
      have := (h.sn u hu).set y (.int .i64 n)
      rw [upd_map (fun z => Value.int .i64 z)] at this
      rw [upd_same]
      exact this
    · rw [upd_other _ _ e]
      exact (h.sn u hu).other (h.SS hu ht e) _
  fam := h.fam.over fun k hk _ => heap_setCell_other _ _ _ _ (by have := h.ls t ht; show k ≠ S t; omega)
  box := h.box.other (h.cS ht) _
  kp := h.kp.setCell (.inr (PW.seen ht)) _
  sz := by have := h.sz; simp [World.setCell]; omega
  lg := h.lg
  lc := h.lc
  ls := h.ls
  ns := h.ns

theorem fam_upd (i : Nat) (zs : List Nat) : (fun j => ((upd ys i zs) j).map nat64) = upd (fun j => (ys j).map nat64) i (zs.map nat64) ∧ (fun j => ((upd ys i zs) j).length) = upd (fun j => (ys j).length) i zs.length :=
  ⟨(upd_map (fun l : List Nat => l.map nat64) ys i zs).symm, (upd_map (fun l : List Nat => l.length) ys i zs).symm⟩

/-- A row's value in the struct is written anew. -/
theorem PM.put (h : PM w0 base Bg Ba Bc nn cutv S w s r ys sv) {i : Nat} (hi : i < 4) (v : Value) (zs : List Nat) (hk : Keep base (fun _ => False) w w')
    (hfam : Fam w' base 3 1 5 (upd r i v) (fun j => ((upd ys i zs) j).map nat64) (fun j => ((upd ys i zs) j).length)) :
    PM w0 base Bg Ba Bc nn cutv S (w'.setCell ⟨Bg, 5 + i, none⟩ v) s (upd r i v) (upd ys i zs) sv where
  g := by have := (h.g.keep hk h.lg id).set (5 + i) v; rwa [gfun_row] at this
  sn := fun t ht => ((h.sn t ht).keep hk (h.ls t ht) id).other (Ne.symm (h.gS ht)) _
  fam := hfam.over fun k hk _ => heap_setCell_other _ _ _ _ (by have := h.lg; show k ≠ Bg; omega)
  box := by
    have := (h.box.keep hk h.lc id).other (a := ⟨Bg, 5 + i, none⟩) (Ne.symm h.gc) v
    rw [upd_other _ _ (by omega)]
    exact this
  kp := (h.kp.trans (hk.mono (Nat.le_refl _) (fun _ _ q => q.elim))).setCell (.inr (.inl rfl)) _
  sz := by have := h.sz; have := hk.size; simp [World.setCell]; omega
  lg := h.lg
  lc := h.lc
  ls := h.ls
  ns := h.ns

/-- A row cut to nothing. -/
theorem Fam.cutAt (h : Fam w base 3 1 5 r (fun i => (ys i).map nat64) (fun i => (ys i).length)) {i : Nat} (hi : i < 5) {ao : Option Addr} {n cap : Nat} (he : r i = .slice ao n cap) :
    w.ownsRow base 3 1 (.slice ao 0 cap) 0 [] ∧ (Value.slice ao 0 cap).ownBlock = (r i).ownBlock := by
  have h1 := h.1 i hi
  obtain ⟨ao', cap', e, _⟩ := owns_form h1
  rw [he] at h1 e
  cases e
  refine ⟨by simpa using owns_cut h1 (Nat.zero_le _), ?_⟩
  rw [he]
  cases ao <;> rfl

theorem PM.cut (h : PM w0 base Bg Ba Bc nn cutv S w s r ys sv) {i : Nat} (hi : i < 4) {ao : Option Addr} {n cap : Nat} (he : r i = .slice ao n cap) :
    PM w0 base Bg Ba Bc nn cutv S (w.setCell ⟨Bg, 5 + i, none⟩ (.slice ao 0 cap)) s (upd r i (.slice ao 0 cap)) (upd ys i []) sv := by
  obtain ⟨h1, h2⟩ := h.fam.cutAt (by omega) he
  refine h.put hi _ [] (Keep.refl _ _ _) ?_
  rw [(fam_upd i []).1, (fam_upd i []).2]
  exact h.fam.turn (by omega) h1 (fun _ _ _ _ => rfl) (fun k hk => .inl (h2 ▸ hk))

/-- One number appended to a row (or to what is left of it), and the row's value written anew. -/
theorem PM.push (h : PM w0 base Bg Ba Bc nn cutv S w s r ys sv) {i : Nat} (hi : i < 4) (y : Nat) {v : Value} {zs : List Nat} (hv : w.ownsRow base 3 1 v zs.length (zs.map nat64)) (hb : v.ownBlock = (r i).ownBlock) (hn : zs.length ≤ 1000) :
    ∃ g' cap' w', (Builtin.append_ #[48, 48] 48 #[v, .slice (some ⟨w.heap.size, 0, none⟩) 1 1]).run Yba.prog (w.alloc (.cells #[.int .i64 (y : Int)] 3)) = .ok (.slice (some ⟨g', 0, none⟩) (zs.length + 1) cap') w' ∧
      w'.cell? ⟨Bg, 5 + i, none⟩ = some (r i) ∧ w'.frozen? ⟨Bg, 5 + i, none⟩ = false ∧
      PM w0 base Bg Ba Bc nn cutv S (w'.setCell ⟨Bg, 5 + i, none⟩ (.slice (some ⟨g', 0, none⟩) (zs.length + 1) cap')) s (upd r i (.slice (some ⟨g', 0, none⟩) (zs.length + 1) cap')) (upd ys i (zs ++ [y])) sv := by
  obtain ⟨g', cap', w', hr, h1, h2, h3⟩ := push_int w base 48 v zs.length (zs.map nat64) y hv (by omega) h.sz
  have hvk : ∀ k, v.ownBlock = some k → base ≤ k := fun k hk => (hv.lt k hk).1
  have hk : Keep base (fun _ => False) w w' := h2.mono h.sz (fun k hk e => by have := hvk k e; omega)
  have hg := h.g.keep hk h.lg id
  refine ⟨g', cap', w', hr, (hg.cell (by omega)).trans (by rw [gfun_at]), hg.frozen _, h.put hi _ _ hk ?_⟩
  rw [(fam_upd i _).1, (fam_upd i _).2]
  refine h.fam.turn (by omega) (by simpa [nat64] using h1) (fun k hk' hne _ => h2.block hk' (fun e => hne (hb ▸ e))) (fun k hk' => ?_)
  have hk' : some g' = some k := hk'
  cases hk'
  rcases h3 with h3 | h3
  · exact .inl (hb ▸ h3)
  · exact .inr h3

/-- A call of 'blocked'. -/
theorem PM.call (h : PM w0 base Bg Ba Bc nn cutv S w s r ys sv) {y g' cap' : Nat} (hbox : w'.heap[Bc]? = some (.cells #[.slice (some ⟨g', 0, none⟩) ((ys 4).length + 1) cap'] 48 (0, 0)))
    (hown : w'.ownsRow base 3 1 (.slice (some ⟨g', 0, none⟩) ((ys 4).length + 1) cap') ((ys 4).length + 1) ((ys 4).map nat64 ++ [.int .i64 (y : Int)])) (htell : (r 4).ownBlock = some g' ∨ w.heap.size ≤ g') (hk : Keep w.heap.size (fun k => (r 4).ownBlock = some k ∨ k = Bc) w w') :
    PM w0 base Bg Ba Bc nn cutv S w' s (upd r 4 (.slice (some ⟨g', 0, none⟩) ((ys 4).length + 1) cap')) (upd ys 4 (ys 4 ++ [y])) sv := by
  have hvk : ∀ k, (r 4).ownBlock = some k → base ≤ k := fun k hk => ((h.fam.1 4 (by omega)).lt k hk).1
  have hsz := h.sz
  have hk' : Keep base (fun k => k = Bc) w w' := hk.mono h.sz (fun k hk e => by
    rcases e with e | e
    · have := hvk k e; omega
    · exact e)
  refine ⟨?_, fun t ht => (h.sn t ht).keep hk' (h.ls t ht) (fun e => h.cS ht e.symm), ?_, ?_, h.kp.trans (hk'.mono (Nat.le_refl _) (fun k _ e => .inr (.inr (.inr e)))), by have := hk.size; omega, h.lg, h.lc, h.ls, h.ns⟩
  · have := h.g.keep hk' h.lg h.gc
    refine this.of_ext fun j hj => ?_
    match j, hj with
    | 0, _ => rfl
    | 1, _ => rfl
    | 2, _ => rfl
    | 3, _ => rfl
    | 4, _ => rfl
    | j + 5, hj => exact (upd_other r _ (show j ≠ 4 by omega)).symm
  · rw [(fam_upd 4 _).1, (fam_upd 4 _).2]
    refine h.fam.turn (by omega) (by simpa [nat64] using hown) (fun k hk1 hne hb => hk.block hk1 (fun e => by
      rcases e with e | e
      · exact hne e
      · have := h.lc; omega)) (fun k hk1 => ?_)
    have hk1 : some g' = some k := hk1
    cases hk1
    exact htell
  · have : (arrOf (fun _ => upd r 4 (.slice (some ⟨g', 0, none⟩) ((ys 4).length + 1) cap') 4) 1) = #[.slice (some ⟨g', 0, none⟩) ((ys 4).length + 1) cap'] := by rw [upd_same]; rfl
    unfold Blk
    rw [this]
    exact hbox

/-- Two numbers exchanged. -/
def sw (i j k : Nat) : Nat := if k = i then j else if k = j then i else k

theorem sw_lt {i j N : Nat} (hi : i < N) (hj : j < N) (k : Nat) (hk : k < N) : sw i j k < N := by unfold sw; split; exact hj; split; exact hi; exact hk
theorem sw_inj {i j : Nat} (k l : Nat) (h : sw i j k = sw i j l) : k = l := by
  unfold sw at h
  split at h <;> split at h <;> (try split at h) <;> (try split at h) <;> omega

/-- The frontier and the next one change places. -/
theorem PM.swap (h : PM w0 base Bg Ba Bc nn cutv S w s r ys sv) {i j : Nat} (hi : i < 4) (hj : j < 4) (hij : i ≠ j) :
    PM w0 base Bg Ba Bc nn cutv S ((w.setCell ⟨Bg, 5 + i, none⟩ (r j)).setCell ⟨Bg, 5 + j, none⟩ (r i)) s (fun k => r (sw i j k)) (fun k => ys (sw i j k)) sv where
  g := by
    have := (h.g.set (5 + i) (r j)).set (5 + j) (r i)
    rw [gfun_row, gfun_row] at this
    have e : upd (upd r i (r j)) j (r i) = fun k => r (sw i j k) := by
      funext k
      unfold upd sw
      by_cases h1 : k = i
      · subst h1
        simp [hij]
      · simp [h1]
        split <;> rfl
    rwa [e] at this
  sn := fun t ht => ((h.sn t ht).other (Ne.symm (h.gS ht)) _).other (Ne.symm (h.gS ht)) _
  fam := (h.fam.perm (sw i j) (sw_lt (by omega) (by omega)) (fun k l _ _ => sw_inj k l)).over fun k hk _ => by
    have := h.lg
    rw [heap_setCell_other _ _ _ _ (show k ≠ Bg by omega), heap_setCell_other _ _ _ _ (show k ≠ Bg by omega)]
  box := by
    have e : r (sw i j 4) = r 4 := by
      unfold sw
      rw [if_neg (by omega), if_neg (by omega)]
    show Blk _ Bc 48 1 (fun _ => r (sw i j 4))
    rw [e]
    exact (h.box.other (Ne.symm h.gc) _).other (Ne.symm h.gc) _
  kp := (h.kp.setCell (.inr (.inl rfl)) _).setCell (.inr (.inl rfl)) _
  sz := by have := h.sz; simp [World.setCell]; omega
  lg := h.lg
  lc := h.lc
  ls := h.ls
  ns := h.ns
end
end Go.Proofs.Ybulkfeps.lawS7805BWhole
