import Derived.Test.YbulkfepsBput
namespace Go.Proofs.Ybulkfeps.lawS7805BWhole
open Go.ChangeShapes Go.WideShapes Go.ChangeAt Go.RowKit
set_option linter.unusedVariables false

/-- A block of the call's own that bears the graph, its links or its cut pairs. -/
def TyM (w : World) (b k : Nat) : Prop := b ≤ k ∧ ∃ cur e fr, w.heap[k]? = some (.cells cur e fr) ∧ (e = 66 ∨ e = 67 ∨ e = 57 ∨ e = 64)

/-- All else is as it was. -/
def TK (b : Nat) (w w' : World) : Prop := Keep w.heap.size (TyM w b) w w'

theorem TK.refl (b : Nat) (w : World) : TK b w w := Keep.refl _ _ _

theorem TK.trans {b : Nat} {w w1 w2 : World} (h : TK b w w1) (k : TK b w1 w2) : TK b w w2 :=
  ⟨k.1.trans h.1, k.2.1.trans h.2.1, k.2.2.1.trans h.2.2.1, Nat.le_trans h.size k.size, fun i hi hm => by
    have e1 := h.block hi hm
    refine (Keep.block k (Nat.lt_of_lt_of_le hi h.size) (fun q => hm ?_)).trans e1
    obtain ⟨q1, cur, e, fr, q2, q3⟩ := q
    exact ⟨q1, cur, e, fr, e1 ▸ q2, q3⟩⟩

theorem TK.below {b : Nat} {w w' : World} (h : TK b w w') (hb : b ≤ w.heap.size) : Below b w w' := Keep.below h hb (fun k hk q => by have := q.1; omega)

theorem TK.blk {b : Nat} {w w' : World} (h : TK b w w') {k n : Nat} {e : TypeId} {g : Nat → Value} (hk : Blk w k e n g) (h1 : e ≠ 66) (h2 : e ≠ 67) (h3 : e ≠ 57) (h4 : e ≠ 64) : Blk w' k e n g :=
  hk.frame (Keep.block h hk.lt (fun q => by
    obtain ⟨_, cur, e', fr, q2, q3⟩ := q
    have := hk.symm.trans q2
    simp only [Option.some.injEq, Obj.cells.injEq] at this
    obtain ⟨_, rfl, _⟩ := this
    rcases q3 with q | q | q | q
    · exact h1 q
    · exact h2 q
    · exact h3 q
    · exact h4 q))

def nilv : Value := .slice none 0 0

/-- The cells of pairs of numbers. -/
def pairCells : List (Nat × Nat) → List Value
  | [] => []
  | p :: L => .int .i64 (p.1 : Int) :: .int .i64 (p.2 : Int) :: pairCells L

theorem pairCells_append : ∀ L M : List (Nat × Nat), pairCells (L ++ M) = pairCells L ++ pairCells M
  | [], M => rfl
  | p :: L, M => by simp [pairCells, pairCells_append L M]

theorem pairCells_at : ∀ (L : List (Nat × Nat)) (j : Nat) (p : Nat × Nat), L[j]? = some p → (pairCells L)[j * 2]? = some (.int .i64 (p.1 : Int)) ∧ (pairCells L)[j * 2 + 1]? = some (.int .i64 (p.2 : Int))
  | [], j, p, h => by simp at h
  | q :: L, 0, p, h => by
    simp at h
    subst h
    exact ⟨rfl, rfl⟩
  | q :: L, j + 1, p, h => by
    have := pairCells_at L j p (by simpa using h)
    rw [show (j + 1) * 2 = j * 2 + 2 by omega]
    exact this

theorem pairCells_one : ∀ (L : List (Nat × Nat)) (u : Value), u ∈ pairCells L → u.oneCell' = true
  | [], u, h => by cases h
  | p :: L, u, h => by
    simp only [pairCells, List.mem_cons] at h
    rcases h with rfl | rfl | h
    · rfl
    · rfl
    · exact pairCells_one L u h

theorem pairCells_length : ∀ L : List (Nat × Nat), (pairCells L).length = L.length * 2
  | [] => rfl
  | p :: L => by
    simp only [pairCells, List.length_cons, pairCells_length L]
    omega

theorem info67 : (Yba.prog.info? 67).map (fun i => (i.zero, i.size, i.bytes)) = some (some (.agg #[.int .i64 0, .int .i64 0]), 2, 16) := by kernel_rfl

/-- The graph while it is built. -/
structure GS (w : World) (base Bg Ba nn : Nat) (S : Nat → Nat) (cutv : Value) (cutL : List (Nat × Nat)) (av : Nat → Value) (L : Nat → List (Nat × Int)) (c : Nat → Nat → Int) : Prop where
  g : Blk w Bg 57 9 (gfun Ba nn cutv 0 S (fun _ => nilv))
  adj : Blk w Ba 64 nn av
  fam : Fam w base 66 2 nn av (fun x => linkCells (L x)) (fun x => (L x).length)
  rep : ∀ x, x < nn → RepL nn (L x) (c x)
  cut : w.ownsRow base 67 2 cutv cutL.length (pairCells cutL)
  lg : base ≤ Bg
  la : base ≤ Ba
  sz : base ≤ w.heap.size

/-- The counts behind 'put'. -/
def putC (c : Nat → Nat → Int) (a b : Nat) (d : Int) : Nat → Nat → Int := upd c a (upd (c a) b (c a b + d))

theorem own_ne_own {w : World} {lo lo' size size' n n' k k' : Nat} {e e' : TypeId} {v v' : Value} {xs xs' : List Value} (h : w.ownsRow lo e size v n xs) (h' : w.ownsRow lo' e' size' v' n' xs') (he : e ≠ e') (hk : v.ownBlock = some k) (hk' : v'.ownBlock = some k') : k ≠ k' := by
  obtain ⟨c1, h1⟩ := own_type h hk
  obtain ⟨c2, h2⟩ := own_type h' hk'
  intro q
  subst q
  have := h1.symm.trans h2
  simp only [Option.some.injEq, Obj.cells.injEq] at this
  exact he this.2.1

/-- Row i turned; the other rows' blocks stand. -/
theorem Fam.turn2 {w w' : World} {base : Nat} {e : TypeId} {size N : Nat} {r : Nat → Value} {xs : Nat → List Value} {ln : Nat → Nat} (h : Fam w base e size N r xs ln) {i : Nat} (hi : i < N) {v' : Value} {n' : Nat} {xs' : List Value} (hown : w'.ownsRow base e size v' n' xs')
    (hk : ∀ j k, j < N → (r j).ownBlock = some k → (r i).ownBlock ≠ some k → w'.heap[k]? = w.heap[k]?) (htell : ∀ k, v'.ownBlock = some k → (r i).ownBlock = some k ∨ w.heap.size ≤ k) :
    Fam w' base e size N (upd r i v') (upd xs i xs') (upd ln i n') := by
  refine ⟨fun j hj => ?_, fun j l hj hl hne k h1 h2 => ?_⟩
  · by_cases e : j = i
    · subst e
      rw [upd_same, upd_same, upd_same]
      exact hown
    · rw [upd_other _ _ e, upd_other _ _ e, upd_other _ _ e]
      exact owns_frame (h.1 j hj) (fun k hk' => hk j k hj hk' (h.2 j i hj hi e k hk'))
  · by_cases e : j = i
    · subst e
      rw [upd_same] at h1
      rw [upd_other _ _ (Ne.symm hne)] at h2
      have hl2 := ((h.1 l hl).lt k h2).2
      rcases htell k h1 with h1 | h1
      · exact h.2 j l hj hl hne k h1 h2
      · omega
    · rw [upd_other _ _ e] at h1
      by_cases e' : l = i
      · subst e'
        rw [upd_same] at h2
        have hl2 := ((h.1 j hj).lt k h1).2
        rcases htell k h2 with h2 | h2
        · exact h.2 j l hj hl hne k h1 h2
        · omega
      · rw [upd_other _ _ e'] at h2
        exact h.2 j l hj hl hne k h1 h2

section
variable {w w' : World} {base Bg Ba nn : Nat} {S : Nat → Nat} {cutv : Value} {cutL : List (Nat × Nat)} {av : Nat → Value} {L : Nat → List (Nat × Int)} {c : Nat → Nat → Int} {e : Ending}

theorem GS.put (h : GS w base Bg Ba nn S cutv cutL av L c) {a b : Nat} {d : Int} (ha : a < nn) (hp : PutPost w base Ba nn av (c a) a b d e w') :
    e = .returned (.int .i64 (c a b + d)) ∧ TK base w w' ∧ ∃ av' L', GS w' base Bg Ba nn S cutv cutL av' L' (putC c a b d) := by
  obtain ⟨he, v', L', h1, h2, h3, h4, h5⟩ := hp
  have hra := h.fam.1 a ha
  have hsz := h.sz
  have hnBg : ∀ k, (av a).ownBlock = some k → k ≠ Bg := fun k hk => own_ne hra hk h.g (by decide)
  have hnBa : ∀ k, (av a).ownBlock = some k → k ≠ Ba := fun k hk => own_ne hra hk h.adj (by decide)
  refine ⟨he, ?_, upd av a v', upd L a L', ?_, h1, ?_, ?_, ?_, h.lg, h.la, by have := h5.size; omega⟩
  · refine Keep.mono h5 (Nat.le_refl _) (fun k hk q => ?_)
    rcases q with q | q
    · obtain ⟨cur, hc⟩ := own_type hra q
      exact ⟨(hra.lt k q).1, cur, 66, _, hc, .inl rfl⟩
    · subst q
      exact ⟨h.la, _, 64, _, h.adj, .inr (.inr (.inr rfl))⟩
  · exact h.g.keep h5 h.g.lt (fun q => by
      rcases q with q | q
      · exact hnBg _ q rfl
      · exact h.g.ne h.adj (by decide) q)
  · have e1 : (fun x => linkCells (upd L a L' x)) = upd (fun x => linkCells (L x)) a (linkCells L') := (upd_map linkCells L a L').symm
    have e2 : (fun x => (upd L a L' x).length) = upd (fun x => (L x).length) a L'.length := (upd_map (fun l : List (Nat × Int) => l.length) L a L').symm
    rw [e1, e2]
    refine h.fam.turn2 ha h2 (fun j k hj hk hne => h5.block ((h.fam.1 j hj).lt k hk).2 (fun q => ?_)) h4
    rcases q with q | q
    · exact hne q
    · exact own_ne (h.fam.1 j hj) hk h.adj (by decide) q
  · intro x hx
    by_cases q : x = a
    · subst q
      unfold putC
      rw [upd_same, upd_same]
      exact h3
    · unfold putC
      rw [upd_other _ _ q, upd_other _ _ q]
      exact h.rep x hx
  · refine owns_frame h.cut (fun k hk => h5.block (h.cut.lt k hk).2 (fun q => ?_))
    rcases q with q | q
    · exact own_ne_own hra h.cut (by decide) q hk rfl
    · exact own_ne h.cut hk h.adj (by decide) q

/-- One pair appended to the cut ones, in the world where the one-element slice lies. -/
theorem GS.pushCut (h : GS w base Bg Ba nn S cutv cutL av L c) (a b : Nat) (hn : cutL.length ≤ 1000000) :
    ∃ g' cap' w', (Builtin.append_ #[53, 53] 53 #[cutv, .slice (some ⟨w.heap.size, 0, none⟩) 1 1]).run Yba.prog (w.alloc (.cells #[.int .i64 (a : Int), .int .i64 (b : Int)] 67)) = .ok (.slice (some ⟨g', 0, none⟩) (cutL.length + 1) cap') w' ∧
      w'.cell? ⟨Bg, 1, none⟩ = some cutv ∧ w'.frozen? ⟨Bg, 1, none⟩ = false ∧
      GS (w'.setCell ⟨Bg, 1, none⟩ (.slice (some ⟨g', 0, none⟩) (cutL.length + 1) cap')) base Bg Ba nn S (.slice (some ⟨g', 0, none⟩) (cutL.length + 1) cap') (cutL ++ [(a, b)]) av L c ∧
      TK base w (w'.setCell ⟨Bg, 1, none⟩ (.slice (some ⟨g', 0, none⟩) (cutL.length + 1) cap')) := by
  obtain ⟨i0, hi, hz0, hz1, hz2⟩ := info_parts info67
  obtain ⟨v', w', hr, h1, h2, h3⟩ := run_append_tell (P := Yba.prog) (w.alloc (.cells #[.int .i64 (a : Int), .int .i64 (b : Int)] 67)) base 53 53 67 i0 (.agg #[.int .i64 0, .int .i64 0]) 2 16 Yba.underlying53 hi hz0 hz1 hz2 rfl (by decide) cutv cutL.length (pairCells cutL) (h.cut.alloc _)
    ⟨w.heap.size, 0, none⟩ 1 1 [.int .i64 (a : Int), .int .i64 (b : Int)] rfl (fun j u hu => by
      match j, hu with
      | 0, hu => cases hu; rw [Addr.add_lit, cell_of_row _ _ _ _ _ _ (heap_alloc_new w _)]; rfl
      | 1, hu => cases hu; rw [Addr.add_lit, cell_of_row _ _ _ _ _ _ (heap_alloc_new w _)]; rfl
      | j + 2, hu => simp at hu) (by simp [Value.oneCell']) (by unfold maxLen; omega) (by omega) (by have := h.sz; show base ≤ (w.heap.push _).size; simp; omega)
  obtain ⟨g', cap', rfl, _⟩ := owns_some h1 (by omega)
  have k1 : Keep w.heap.size (fun k => cutv.ownBlock = some k) w (w.alloc (.cells #[.int .i64 (a : Int), .int .i64 (b : Int)] 67)) := (Keep.refl _ _ _).alloc (Nat.le_refl _) _
  have hk : Keep w.heap.size (fun k => cutv.ownBlock = some k) w w' := k1.grown h2 (by show w.heap.size ≤ (w.heap.push _).size; simp) (fun k hk => .inr hk)
  have hg := h.g.keep hk h.g.lt (fun q => own_ne h.cut q h.g (by decide) rfl)
  have ha := h.adj.keep hk h.adj.lt (fun q => own_ne h.cut q h.adj (by decide) rfl)
  have hsz := h.sz
  have hfr : ∀ j k, j < nn → (av j).ownBlock = some k → w'.heap[k]? = w.heap[k]? := fun j k hj hk' => hk.block ((h.fam.1 j hj).lt k hk').2 (fun q => own_ne_own h.cut (h.fam.1 j hj) (by decide) q hk' rfl)
  refine ⟨g', cap', w', hr, (hg.cell (by omega)).trans rfl, hg.frozen _, ⟨?_, ha.other (Ne.symm (h.g.ne h.adj (by decide))) _, ?_, h.rep, ?_, h.lg, h.la, ?_⟩, ?_⟩
  · have := hg.set 1 (.slice (some ⟨g', 0, none⟩) (cutL.length + 1) cap')
    rwa [gfun_cut] at this
  · refine (h.fam.frame (fun i k hi hk' => hfr i k hi hk')).frame (fun i k hi hk' => heap_setCell_other _ _ _ _ (own_ne (h.fam.1 i hi) hk' h.g (by decide)))
  · rw [pairCells_append, List.length_append]
    refine owns_frame h1 (fun k hk' => heap_setCell_other _ _ _ _ ?_)
    exact own_ne h1 hk' hg (by decide)
  · have := hk.size
    simp [World.setCell]
    omega
  · refine Keep.setCell (Keep.mono hk (Nat.le_refl _) (fun k hk' q => ?_)) (.inr ⟨h.lg, _, 57, _, h.g, .inr (.inr (.inl rfl))⟩) _
    obtain ⟨cur, hc⟩ := own_type h.cut q
    exact ⟨(h.cut.lt k q).1, cur, 67, _, hc, .inr (.inl rfl)⟩
end

/-- The counts behind 'add'. -/
def addC (c : Nat → Nat → Int) (a b : Nat) (d : Int) : Nat → Nat → Int := if a = b then putC c a b d else putC (putC c a b d) b a d

/-- What 'add' hands on. -/
def AddPost (w : World) (base Bg Ba nn : Nat) (S : Nat → Nat) (n : Nat) (c : Nat → Nat → Int) (e : Ending) (w' : World) : Prop :=
  e = .returned (.tuple #[]) ∧ TK base w w' ∧ ∃ cutv cutL av L, GS w' base Bg Ba nn S cutv cutL av L c ∧ cutL.length ≤ n
end Go.Proofs.Ybulkfeps.lawS7805BWhole
