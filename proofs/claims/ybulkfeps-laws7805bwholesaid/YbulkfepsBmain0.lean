import Derived.Test.YbulkfepsBnew
namespace Go.Proofs.Ybulkfeps.lawS7805BWhole
open Go.ChangeShapes Go.WideShapes Go.ChangeAt Go.RowKit
set_option linter.unusedVariables false

/-- The steps as they came in. -/
def OpsIn (w : World) (B : Nat) (v : Value) (ops : List (Nat × Nat × Int)) : Prop :=
  ∃ ao c, v = .slice ao ops.length c ∧ (∀ p, p ∈ ops → p.1 < 256 ∧ p.2.1 < 256 ∧ -128 ≤ p.2.2 ∧ p.2.2 ≤ 127) ∧ (ops.length = 0 ∨ ∃ b off, ao = some ⟨b, off, none⟩ ∧ b < B ∧ ∀ k p, ops[k]? = some p →
    w.cell? ⟨b, off + k * 3, none⟩ = some (.int .u8 (p.1 : Int)) ∧ w.cell? ⟨b, off + k * 3 + 1, none⟩ = some (.int .u8 (p.2.1 : Int)) ∧ w.cell? ⟨b, off + k * 3 + 2, none⟩ = some (.int .i8 p.2.2))

/-- The queries as they came in. -/
def QsIn (w : World) (B : Nat) (v : Value) (qs : List (Nat × Nat)) : Prop :=
  ∃ ao c, v = .slice ao qs.length c ∧ (∀ p, p ∈ qs → p.1 < 256 ∧ p.2 < 256) ∧ (qs.length = 0 ∨ ∃ b off, ao = some ⟨b, off, none⟩ ∧ b < B ∧ ∀ k p, qs[k]? = some p →
    w.cell? ⟨b, off + k * 2, none⟩ = some (.int .u8 (p.1 : Int)) ∧ w.cell? ⟨b, off + k * 2 + 1, none⟩ = some (.int .u8 (p.2 : Int)))

/-- The rows of counts while they are made. -/
structure MK (w1 : World) (C nn k : Nat) (wr : World) : Prop where
  size : wr.heap.size = C + 1 + k
  outer : Blk wr C 48 nn (fun i => if i < k then .slice (some ⟨C + 1 + i, 0, none⟩) nn nn else .slice none 0 0)
  rows : ∀ i, i < k → Blk wr (C + 1 + i) 3 nn (fun _ => .int .i64 0)
  low : Below C w1 wr

theorem MK.start (w1 : World) (nn : Nat) : MK w1 w1.heap.size nn 0 (w1.alloc (.cells (arrOf (fun _ => .slice none 0 0) nn) 48)) where
  size := by simp
  outer := (Blk.new w1 48 nn (fun _ => .slice none 0 0)).of_ext (fun j _ => by rw [if_neg (Nat.not_lt_zero _)])
  rows := fun i hi => absurd hi (Nat.not_lt_zero _)
  low := (Below.refl _ _).alloc (Nat.le_refl _) _

theorem MK.step {w1 : World} {C nn k : Nat} {wr : World} (h : MK w1 C nn k wr) :
    MK w1 C nn (k + 1) ((wr.alloc (.cells (arrOf (fun _ => .int .i64 0) nn) 3)).setCell ⟨C, k, none⟩ (.slice (some ⟨wr.heap.size, 0, none⟩) nn nn)) where
  size := by have := h.size; simp [World.setCell]; omega
  outer := by
    have := (h.outer.alloc (.cells (arrOf (fun _ => .int .i64 0) nn) 3)).set k (.slice (some ⟨wr.heap.size, 0, none⟩) nn nn)
    refine this.of_ext (fun j hj => ?_)
    by_cases e : j = k
    · subst e
      rw [upd_same, if_pos (Nat.lt_succ_self _), h.size]
    · rw [upd_other _ _ e]
      by_cases q : j < k
      · rw [if_pos q, if_pos (by omega)]
      · rw [if_neg q, if_neg (by omega)]
  rows := fun i hi => by
    have hs := h.size
    by_cases e : i = k
    · subst e
      have := (Blk.new wr 3 nn (fun _ => .int .i64 0)).other (a := ⟨C, i, none⟩) (show wr.heap.size ≠ C by omega) (.slice (some ⟨wr.heap.size, 0, none⟩) nn nn)
      rw [hs] at this ⊢
      exact this
    · exact ((h.rows i (by omega)).alloc _).other (show C + 1 + i ≠ C by omega) _
  low := ((h.low.alloc (by have := h.size; omega) _).setCell (p := ⟨C, k, none⟩) (Nat.le_refl _) _)

/-- What the loop over the steps keeps: cg the graph's counts, cc those beside it. -/
structure OS (w : World) (base Bk Bg Ba C nn : Nat) (bv : Value) (S : Nat → Nat) (wr : World) (cutv : Value) (cutL : List (Nat × Nat)) (av : Nat → Value) (L : Nat → List (Nat × Int)) (cg cc : Nat → Nat → Int) : Prop where
  gs : GS wr base Bg Ba nn S cutv cutL av L cg
  cn : CntIn wr (C + 1 + nn) C nn (fun x => C + 1 + x) cc
  bk : Blk wr Bk 43 1 (fun _ => bv)
  sn : ∀ t, t < 2 → Blk wr (S t) 3 nn (fun _ => .int .i64 0) ∧ base ≤ S t ∧ S t < C
  ns : S 0 ≠ S 1
  low : Below w.heap.size w wr
  lb : w.heap.size ≤ Bk
  kb : Bk < base
  hi : C + 1 + nn ≤ wr.heap.size
  lc : base ≤ C

section
variable {w : World} {base Bk Bg Ba C nn : Nat} {bv : Value} {S : Nat → Nat} {wr w' : World} {cutv : Value} {cutL : List (Nat × Nat)} {av : Nat → Value} {L : Nat → List (Nat × Int)} {cg cc : Nat → Nat → Int}

theorem OS.add (h : OS w base Bk Bg Ba C nn bv S wr cutv cutL av L cg cc) {n : Nat} {c : Nat → Nat → Int} {e : Ending} (hp : AddPost wr base Bg Ba nn S n c e w') :
    e = .returned (.tuple #[]) ∧ ∃ cutv' cutL' av' L', OS w base Bk Bg Ba C nn bv S w' cutv' cutL' av' L' c cc ∧ cutL'.length ≤ n := by
  obtain ⟨he, hk, cutv', cutL', av', L', hg, hn⟩ := hp
  have hsz := h.gs.sz
  refine ⟨he, cutv', cutL', av', L', ⟨hg, ⟨h.cn.1, hk.blk h.cn.2.1 (by decide) (by decide) (by decide) (by decide), fun x hx => ⟨(h.cn.2.2 x hx).1, hk.blk (h.cn.2.2 x hx).2 (by decide) (by decide) (by decide) (by decide)⟩⟩,
    hk.blk h.bk (by decide) (by decide) (by decide) (by decide), fun t ht => ⟨hk.blk (h.sn t ht).1 (by decide) (by decide) (by decide) (by decide), (h.sn t ht).2⟩, h.ns, ?_, h.lb, h.kb, ?_, h.lc⟩, hn⟩
  · have := hk.below hsz
    have h1 := h.lb
    have h2 := h.kb
    exact h.low.trans (this.mono (by omega))
  · have := Keep.size hk
    have := h.hi
    omega

theorem OS.keep (h : OS w base Bk Bg Ba C nn bv S wr cutv cutL av L cg cc) (hk : Keep wr.heap.size (fun _ => False) wr w') : OS w base Bk Bg Ba C nn bv S w' cutv cutL av L cg cc := by
  have hsz := h.gs.sz
  have hb : ∀ k, k < wr.heap.size → w'.heap[k]? = wr.heap[k]? := fun k q => hk.block q id
  have hle := hk.size
  have h1 := h.lb
  have h2 := h.kb
  refine ⟨⟨h.gs.g.frame (hb _ h.gs.g.lt), h.gs.adj.frame (hb _ h.gs.adj.lt), h.gs.fam.over (fun k _ q => hb k q), h.gs.rep, owns_frame h.gs.cut (fun k q => hb k (h.gs.cut.lt k q).2), h.gs.lg, h.gs.la, by omega⟩,
    h.cn.keep (hb _ h.cn.2.1.lt) (fun x hx => hb _ (h.cn.2.2 x hx).2.lt), h.bk.frame (hb _ h.bk.lt), fun t ht => ⟨(h.sn t ht).1.frame (hb _ (h.sn t ht).1.lt), (h.sn t ht).2⟩, h.ns, ?_, h.lb, h.kb, by have := h.hi; omega, h.lc⟩
  exact h.low.trans (hk.below (by omega) (fun _ _ q => q))

theorem OS.alloc (h : OS w base Bk Bg Ba C nn bv S wr cutv cutL av L cg cc) (o : Obj) : OS w base Bk Bg Ba C nn bv S (wr.alloc o) cutv cutL av L cg cc :=
  h.keep ((Keep.refl _ _ _).alloc (Nat.le_refl _) o)

/-- One count turned. -/
theorem OS.count (h : OS w base Bk Bg Ba C nn bv S wr cutv cutL av L cg cc) {x y : Nat} (hx : x < nn) (d : Int) :
    OS w base Bk Bg Ba C nn bv S (wr.setCell ⟨C + 1 + x, y, none⟩ (.int .i64 (cc x y + d))) cutv cutL av L cg (putC cc x y d) := by
  have hcx := (h.cn.2.2 x hx).2
  have hlc := h.lc
  have hb : ∀ k, k ≠ C + 1 + x → (wr.setCell ⟨C + 1 + x, y, none⟩ (.int .i64 (cc x y + d))).heap[k]? = wr.heap[k]? := fun k q => heap_setCell_other _ _ _ _ q
  have h1 := h.lb
  have h2 := h.kb
  refine ⟨⟨h.gs.g.frame (hb _ (h.gs.g.ne hcx (by decide))), h.gs.adj.frame (hb _ (h.gs.adj.ne hcx (by decide))), h.gs.fam.frame (fun i k hi q => hb k (own_ne (h.gs.fam.1 i hi) q hcx (by decide))), h.gs.rep, owns_frame h.gs.cut (fun k q => hb k (own_ne h.gs.cut q hcx (by decide))), h.gs.lg, h.gs.la, by have := h.gs.sz; simp [World.setCell]; omega⟩,
    ⟨h.cn.1, h.cn.2.1.frame (hb _ (by show C ≠ C + 1 + x; omega)), fun z hz => ⟨(h.cn.2.2 z hz).1, ?_⟩⟩, h.bk.frame (hb _ (h.bk.ne hcx (by decide))), fun t ht => ⟨(h.sn t ht).1.frame (hb _ (by have := (h.sn t ht).2; omega)), (h.sn t ht).2⟩, h.ns, ?_, h.lb, h.kb, by have := h.hi; simp [World.setCell]; omega, h.lc⟩
  · unfold putC
    by_cases e : z = x
    · subst e
      rw [upd_same]
      have := hcx.set y (.int .i64 (cc z y + d))
      rw [upd_map (fun n => Value.int .i64 n)] at this
      exact this
    · rw [upd_other _ _ e]
      exact (h.cn.2.2 z hz).2.frame (hb _ (by show C + 1 + z ≠ C + 1 + x; omega))
  · exact h.low.setCell (p := ⟨C + 1 + x, y, none⟩) (by show w.heap.size ≤ C + 1 + x; omega) _
end

theorem OS.start {w w1 wr : World} {Bg Ba nn : Nat} {S : Nat → Nat} {bv : Value} (hg : GS w1 (w.heap.size + 1) Bg Ba nn S nilv [] (fun _ => nilv) (fun _ => []) (fun _ _ => 0)) (hs : (∀ t, t < 2 → Blk w1 (S t) 3 nn (fun _ => .int .i64 0) ∧ w.heap.size + 1 ≤ S t) ∧ S 0 ≠ S 1)
    (hbk : Blk w1 w.heap.size 43 1 (fun _ => bv)) (hl : Below w.heap.size w w1) (hm : MK w1 w1.heap.size nn nn wr) : OS w (w.heap.size + 1) w.heap.size Bg Ba w1.heap.size nn bv S wr nilv [] (fun _ => nilv) (fun _ => []) (fun _ _ => 0) (fun _ _ => 0) := by
  have hb : ∀ k, k < w1.heap.size → wr.heap[k]? = w1.heap[k]? := fun k q => hm.low.block k q
  have hsz := hm.size
  have h1 := hg.sz
  refine ⟨⟨hg.g.frame (hb _ hg.g.lt), hg.adj.frame (hb _ hg.adj.lt), hg.fam.over (fun k _ q => hb k q), hg.rep, World.ownsRow_nil _ _ _ _, hg.lg, hg.la, by omega⟩, ⟨by omega, hm.outer.of_ext (fun j hj => by rw [if_pos hj]), fun x hx => ⟨by show w1.heap.size + 1 + x < w1.heap.size + 1 + nn; omega, hm.rows x hx⟩⟩, hbk.frame (hb _ hbk.lt),
    fun t ht => ⟨(hs.1 t ht).1.frame (hb _ (hs.1 t ht).1.lt), (hs.1 t ht).2, (hs.1 t ht).1.lt⟩, hs.2, hl.trans (hm.low.mono (by omega)), Nat.le_refl _, Nat.lt_succ_self _, by omega, h1⟩

theorem addC_sym {c : Nat → Nat → Int} (hs : ∀ x y, c x y = c y x) (a b : Nat) (d : Int) : ∀ x y, addC c a b d x y = addC c a b d y x := by
  have key : ∀ x y, addC c a b d x y = if (x = a ∧ y = b) ∨ (x = b ∧ y = a) then c x y + d else c x y := by
    intro x y
    unfold addC putC upd
    by_cases h1 : a = b
    · subst h1
      rw [if_pos rfl]
      by_cases h2 : x = a
      · subst h2
        by_cases h3 : y = x
        · subst h3; simp
        · simp [h3]
      · simp [h2]
    · rw [if_neg h1]
      have h1' : b ≠ a := Ne.symm h1
      by_cases h2 : x = b
      · subst h2
        simp only [if_true, h1', if_false, false_and, true_and, false_or]
        by_cases h3 : y = a
        · subst h3; simp
        · simp [h3]
      · simp only [h2, if_false, false_and, or_false]
        by_cases h3 : x = a
        · subst h3
          by_cases h4 : y = b
          · subst h4; simp
          · simp [h4]
        · simp [h3]
  intro x y
  rw [key, key, hs x y]
  by_cases h : (x = a ∧ y = b) ∨ (x = b ∧ y = a)
  · rw [if_pos h, if_pos (by rcases h with ⟨h1, h2⟩ | ⟨h1, h2⟩; exact .inr ⟨h2, h1⟩; exact .inl ⟨h2, h1⟩)]
  · rw [if_neg h, if_neg (fun q => h (by rcases q with ⟨h1, h2⟩ | ⟨h1, h2⟩; exact .inr ⟨h2, h1⟩; exact .inl ⟨h2, h1⟩))]

theorem putC_bound {c : Nat → Nat → Int} {k : Int} (hk : ∀ x y, -k ≤ c x y ∧ c x y ≤ k) (a b : Nat) {d : Int} (hd : -2 ≤ d ∧ d ≤ 2) (x y : Nat) : (putC c a b d x y = c a b + d ∧ x = a ∧ y = b) ∨ putC c a b d x y = c x y := by
  unfold putC upd
  by_cases h1 : x = a
  · subst h1
    by_cases h2 : y = b
    · subst h2; simp
    · simp [h2]
  · simp [h1]

theorem addC_bound {c : Nat → Nat → Int} {k : Int} (hk : ∀ x y, -k ≤ c x y ∧ c x y ≤ k) (a b : Nat) {d : Int} (hd : -2 ≤ d ∧ d ≤ 2) : ∀ x y, -(k + 2) ≤ addC c a b d x y ∧ addC c a b d x y ≤ k + 2 := by
  intro x y
  have hab := hk a b
  have hxy := hk x y
  have hba := hk b a
  unfold addC
  split
  · rcases putC_bound hk a b hd x y with ⟨e, _⟩ | e <;> rw [e] <;> omega
  · rename_i hne
    have e0 : putC c a b d b a = c b a := by unfold putC; rw [upd_other _ _ (Ne.symm hne)]
    unfold putC at e0 ⊢
    unfold upd at e0 ⊢
    by_cases h1 : x = b
    · subst h1
      by_cases h2 : y = a
      · subst h2
        simp only [if_true] at e0 ⊢
        rw [e0]
        omega
      · simp only [if_true, h2, if_false]
        have : ¬ x = a := fun q => hne q.symm
        simp only [this, if_false]
        omega
    · simp only [h1, if_false]
      by_cases h3 : x = a
      · subst h3
        by_cases h4 : y = b
        · subst h4; simp only [if_true]; omega
        · simp only [if_true, h4, if_false]; omega
      · simp only [h3, if_false]; omega
end Go.Proofs.Ybulkfeps.lawS7805BWhole
