import Derived.Test.YbulkfepsBpi
namespace Go.Proofs.Ybulkfeps.lawS7805BWhole
open Go.ChangeShapes Go.WideShapes Go.ChangeAt Go.RowKit
set_option linter.unusedVariables false

theorem slice0 (ao : Option Addr) (n cap : Nat) (W : World) : (Instr.slice 48 (.slice ao n cap) none (some (.int .i64 0)) none).run Yba.prog W = .ok (.slice ao 0 cap) W := by
  cases ao <;> simp [Instr.slice, Instr.sliceBounds, Instr.sliceBound, asIntOf, Addr.add]

/-- The two ends of a search. -/
def ends (a b t : Nat) : Nat := if t = 0 then a else b

theorem ends_lt {a b nn : Nat} (ha : a < nn) (hb : b < nn) (t : Nat) : ends a b t < nn := by unfold ends; split <;> assumption

theorem ix0 (x y : Int) (W : World) : (Instr.index 67 (.agg #[.int .i64 x, .int .i64 y]) (.int .i64 0)).run Yba.prog W = .ok (.int .i64 x) W := by kernel_rfl
theorem ix1 (x y : Int) (W : World) : (Instr.index 67 (.agg #[.int .i64 x, .int .i64 y]) (.int .i64 1)).run Yba.prog W = .ok (.int .i64 y) W := by kernel_rfl
theorem run_ends (a b k : Nat) (hk : k < 2) (W : World) : (Instr.index 67 (.agg #[.int .i64 (a : Int), .int .i64 (b : Int)]) (.int .i64 (k : Int))).run Yba.prog W = .ok (.int .i64 (ends a b k : Int)) W := by
  match k, hk with
  | 0, _ => exact ix0 _ _ W
  | 1, _ => exact ix1 _ _ W

section
variable (w : World) (base Bg Ba Bc nn : Nat) (cutv : Value) (S : Nat → Nat) (s : Int) (a b : Nat)
/-- The first loop: the two ends are laid down. -/
def L1 (k : Nat) (wr : World) : Prop := ∃ (r : Nat → Value) (ys : Nat → List Nat) (sv : Nat → Nat → Int), PM w base Bg Ba Bc nn cutv S wr s r ys sv ∧ ys 4 = [] ∧ (∀ j, j < k → ys j = [ends a b j]) ∧
  (∀ t x, t < 2 → x < nn → (sv t x = s ↔ t < k ∧ x = ends a b t)) ∧ ∀ t x, t < 2 → x < nn → sv t x ≤ s
end

/-- What the search's outer loop keeps. -/
structure OL (w : World) (base Bg Ba Bc nn : Nat) (cutv : Value) (S : Nat → Nat) (s : Int) (c : Nat → Nat → Int) (bs : List Bool) (a b m : Nat) (wr : World) (r : Nat → Value) (ys : Nat → List Nat) (sv : Nat → Nat → Int) : Prop where
  pm : PM w base Bg Ba Bc nn cutv S wr s r ys sv
  pi : PI nn c bs (ends a b) s sv (TH ys)
  edge : ∀ t x, t < 2 → x ∈ ys t → x < nn ∧ sv t x = s
  elen : ∀ t, t < 2 → (ys t).length ≤ 80
  good : ∀ y, y ∈ ys 4 → y < nn ∧ y ≠ a ∧ y ≠ b
  le : ∀ t x, t < 2 → x < nn → sv t x ≤ s
  calls : (ys 4).length + 3200 * m ≤ 262400
  left : U nn s sv + (if ys 0 ≠ [] ∧ ys 1 ≠ [] then 1 else 0) ≤ m

theorem L1.first {w : World} {base Bg Ba Bc nn : Nat} {cutv : Value} {S : Nat → Nat} {s : Int} {a b : Nat} {wr : World} {r : Nat → Value} {ys : Nat → List Nat} {sv : Nat → Nat → Int}
    (h : PM w base Bg Ba Bc nn cutv S wr (s + 1) r ys sv) (hy : ys 4 = []) (hs : ∀ t x, t < 2 → x < nn → sv t x ≤ s) : L1 w base Bg Ba Bc nn cutv S (s + 1) a b 0 wr :=
  ⟨r, ys, sv, h, hy, fun j hj => absurd hj (Nat.not_lt_zero _), fun t x ht hx => ⟨fun e => by have := hs t x ht hx; omega, fun e => absurd e.1 (Nat.not_lt_zero _)⟩, fun t x ht hx => by have := hs t x ht hx; omega⟩

theorem L1.next {w : World} {base Bg Ba Bc nn : Nat} {cutv : Value} {S : Nat → Nat} {s : Int} {a b k : Nat} {wr : World} {r' : Nat → Value} {ys : Nat → List Nat} {sv : Nat → Nat → Int} (hk : k < 2) (hr : ends a b k < nn) (hy : ys 4 = []) (hl : ∀ j, j < k → ys j = [ends a b j])
    (hi : ∀ t x, t < 2 → x < nn → (sv t x = s ↔ t < k ∧ x = ends a b t)) (hs : ∀ t x, t < 2 → x < nn → sv t x ≤ s)
    (h : PM w base Bg Ba Bc nn cutv S wr s r' (upd ys k [ends a b k]) (upd sv k (upd (sv k) (ends a b k) s))) : L1 w base Bg Ba Bc nn cutv S s a b (k + 1) wr := by
  refine ⟨r', _, _, h, ?_, ?_, ?_, ?_⟩
  · rw [upd_other _ _ (by omega)]; exact hy
  · intro j hj
    by_cases e : j = k
    · subst e; rw [upd_same]
    · rw [upd_other _ _ e]; exact hl j (by omega)
  · intro t x ht hx
    rw [sv_mark]
    split
    · rename_i e
      obtain ⟨rfl, rfl⟩ := e
      simp
    · rename_i e
      rw [hi t x ht hx]
      constructor
      · rintro ⟨h1, h2⟩; exact ⟨by omega, h2⟩
      · rintro ⟨h1, h2⟩
        refine ⟨?_, h2⟩
        by_cases q : t = k
        · subst q; exact absurd ⟨rfl, h2⟩ e
        · omega
  · intro t x ht hx
    rw [sv_mark]
    split
    · exact Int.le_refl _
    · exact hs t x ht hx

theorem L1.over {w : World} {base Bg Ba Bc nn : Nat} {cutv : Value} {S : Nat → Nat} {s : Int} {a b : Nat} {wr : World} (c : Nat → Nat → Int) (bs : List Bool) (hnn : nn ≤ 40) (ha : a < nn) (hb : b < nn) (h : L1 w base Bg Ba Bc nn cutv S s a b 2 wr) :
    ∃ r ys sv, OL w base Bg Ba Bc nn cutv S s c bs a b 81 wr r ys sv := by
  obtain ⟨r, ys, sv, hp, hy, hl, hi, hs⟩ := h
  refine ⟨r, ys, sv, hp, ⟨?_, ?_, ?_⟩, ?_, ?_, ?_, hs, ?_, ?_⟩
  · intro t ht
    exact (hi t _ ht (ends_lt ha hb t)).2 ⟨ht, rfl⟩
  · intro t x ht hx e
    have := ((hi t x ht hx).1 e).2
    rw [this]
    exact Rch.root _
  · intro t x ht hx e
    have := ((hi t x ht hx).1 e).2
    left
    show x ∈ ys t
    rw [hl t ht, this]
    simp
  · intro t x ht hx
    rw [hl t ht] at hx
    obtain rfl := List.mem_singleton.1 hx
    exact ⟨ends_lt ha hb t, (hi t _ ht (ends_lt ha hb t)).2 ⟨ht, rfl⟩⟩
  · intro t ht
    rw [hl t ht]
    show 1 ≤ 80
    omega
  · intro y hy'
    rw [hy] at hy'
    cases hy'
  · rw [hy]; simp
  · have := @U_le nn s sv
    split <;> omega

/-- What a search hands back. -/
def PathPost (w : World) (base Bg Ba Bc nn : Nat) (cutv : Value) (S : Nat → Nat) (s : Int) (c : Nat → Nat → Int) (bs : List Bool) (a b : Nat) (e : Ending) (w' : World) : Prop :=
  ∃ (rb : Bool) (r' : Nat → Value) (ys' : Nat → List Nat) (sv' : Nat → Nat → Int), e = .returned (.bool rb) ∧ (rb = true ↔ Conn (adjOf nn c) (okOf bs) a b) ∧ PM w base Bg Ba Bc nn cutv S w' s r' ys' sv' ∧
    (∀ t x, t < 2 → x < nn → sv' t x ≤ s) ∧ (∀ y, y ∈ ys' 4 → y < nn ∧ y ≠ a ∧ y ≠ b) ∧ (a = b → ys' 4 = [])

/-- What the walk along one side's frontier keeps. -/
structure ML (w : World) (base Bg Ba Bc nn : Nat) (cutv : Value) (S : Nat → Nat) (s : Int) (c : Nat → Nat → Int) (bs : List Bool) (a b : Nat) (E : Nat → List Nat) (vE : Value) (side U0 lim i : Nat) (wr : World) (r : Nat → Value) (ys : Nat → List Nat) (sv : Nat → Nat → Int) : Prop where
  pm : PM w base Bg Ba Bc nn cutv S wr s r ys sv
  re : r side = vE
  ye : ∀ t, t < 2 → ys t = E t
  pi : PI nn c bs (ends a b) s sv (TM E side i (ys (2 + side)))
  edge : ∀ t x, t < 2 → x ∈ E t → x < nn ∧ sv t x = s
  next : ∀ x, x ∈ ys (2 + side) → x < nn ∧ sv side x = s
  good : ∀ y, y ∈ ys 4 → y < nn ∧ y ≠ a ∧ y ≠ b
  le : ∀ t x, t < 2 → x < nn → sv t x ≤ s
  calls : (ys 4).length ≤ lim
  left : U nn s sv + (ys (2 + side)).length = U0

section
variable {w : World} {base Bg Ba Bc nn : Nat} {cutv : Value} {S : Nat → Nat} {s : Int} {c : Nat → Nat → Int} {bs : List Bool} {a b m : Nat} {E : Nat → List Nat} {vE : Value} {side U0 lim i : Nat} {wr w2 : World} {r : Nat → Value} {ys : Nat → List Nat} {sv : Nat → Nat → Int}

theorem OL.drewN (h : OL w base Bg Ba Bc nn cutv S s c bs a b m wr r ys sv) (k : Nat) : OL w base Bg Ba Bc nn cutv S s c bs a b m (wr.drewN k) r ys sv :=
  ⟨h.pm.drewN k, h.pi, h.edge, h.elen, h.good, h.le, h.calls, h.left⟩

theorem ML.drewN (h : ML w base Bg Ba Bc nn cutv S s c bs a b E vE side U0 lim i wr r ys sv) (k : Nat) : ML w base Bg Ba Bc nn cutv S s c bs a b E vE side U0 lim i (wr.drewN k) r ys sv :=
  ⟨h.pm.drewN k, h.re, h.ye, h.pi, h.edge, h.next, h.good, h.le, h.calls, h.left⟩

theorem ML.alloc (h : ML w base Bg Ba Bc nn cutv S s c bs a b E vE side U0 lim i wr r ys sv) (o : Obj) : ML w base Bg Ba Bc nn cutv S s c bs a b E vE side U0 lim i (wr.alloc o) r ys sv :=
  ⟨h.pm.alloc o, h.re, h.ye, h.pi, h.edge, h.next, h.good, h.le, h.calls, h.left⟩

theorem ML.more (h : ML w base Bg Ba Bc nn cutv S s c bs a b E vE side U0 lim i wr r ys sv) {lim' : Nat} (hl : lim ≤ lim') : ML w base Bg Ba Bc nn cutv S s c bs a b E vE side U0 lim' i wr r ys sv :=
  ⟨h.pm, h.re, h.ye, h.pi, h.edge, h.next, h.good, h.le, Nat.le_trans h.calls hl, h.left⟩

theorem ML.start (h : OL w base Bg Ba Bc nn cutv S s c bs a b m wr r ys sv) (hsd : side < 2) {v : Value} (hp : PM w base Bg Ba Bc nn cutv S w2 s (upd r (2 + side) v) (upd ys (2 + side) []) sv) :
    ML w base Bg Ba Bc nn cutv S s c bs a b ys (r side) side (U nn s sv) (ys 4).length 0 w2 (upd r (2 + side) v) (upd ys (2 + side) []) sv where
  pm := hp
  re := upd_other _ _ (by omega)
  ye := fun t ht => upd_other _ _ (by omega)
  pi := by
    rw [upd_same]
    exact h.pi.weaken fun t x _ _ _ q => .inl (TM.start q)
  edge := h.edge
  next := fun x hx => by rw [upd_same] at hx; cases hx
  good := by rw [upd_other _ _ (by omega)]; exact h.good
  le := h.le
  calls := by rw [upd_other _ _ (by omega)]; exact Nat.le_refl _
  left := by rw [upd_same]; rfl

theorem ML.called (h : ML w base Bg Ba Bc nn cutv S s c bs a b E vE side U0 lim i wr r ys sv) (hsd : side < 2) {y : Nat} (hy : y < nn) (h1 : sv side y ≠ s) (h2 : sv (1 - side) y ≠ s) {v : Value} (hp : PM w base Bg Ba Bc nn cutv S w2 s (upd r 4 v) (upd ys 4 (ys 4 ++ [y])) sv) :
    ML w base Bg Ba Bc nn cutv S s c bs a b E vE side U0 (lim + 1) i w2 (upd r 4 v) (upd ys 4 (ys 4 ++ [y])) sv where
  pm := hp
  re := by rw [upd_other _ _ (by omega)]; exact h.re
  ye := fun t ht => by rw [upd_other _ _ (by omega)]; exact h.ye t ht
  pi := by rw [upd_other _ _ (by omega)]; exact h.pi
  edge := h.edge
  next := by rw [upd_other _ _ (by omega)]; exact h.next
  good := by
    rw [upd_same]
    intro z hz
    rcases List.mem_append.1 hz with hz | hz
    · exact h.good z hz
    · obtain rfl := List.mem_singleton.1 hz
      have r0 := h.pi.root 0 (by omega)
      have r1 := h.pi.root 1 (by omega)
      have e0 : ends a b 0 = a := rfl
      have e1 : ends a b 1 = b := rfl
      rw [e0] at r0
      rw [e1] at r1
      have h3 : sv 0 z ≠ s ∧ sv 1 z ≠ s := by
        match side, hsd, h1, h2 with
        | 0, _, h1, h2 => exact ⟨h1, h2⟩
        | 1, _, h1, h2 => exact ⟨h2, h1⟩
      exact ⟨hy, fun e => h3.1 (e ▸ r0), fun e => h3.2 (e ▸ r1)⟩
  le := h.le
  calls := by rw [upd_same]; have := h.calls; simp; omega
  left := by rw [upd_other _ _ (by omega)]; exact h.left

theorem ML.entered (h : ML w base Bg Ba Bc nn cutv S s c bs a b E vE side U0 lim i wr r ys sv) (hsd : side < 2) {x y : Nat} (hx : x ∈ E side) (e : adjOf nn c x y) (o : okOf bs y) (h1 : sv side y ≠ s) {v : Value}
    (hp : PM w base Bg Ba Bc nn cutv S w2 s (upd r (2 + side) v) (upd ys (2 + side) (ys (2 + side) ++ [y])) (upd sv side (upd (sv side) y s))) :
    ML w base Bg Ba Bc nn cutv S s c bs a b E vE side U0 lim i w2 (upd r (2 + side) v) (upd ys (2 + side) (ys (2 + side) ++ [y])) (upd sv side (upd (sv side) y s)) where
  pm := hp
  re := by rw [upd_other _ _ (by omega)]; exact h.re
  ye := fun t ht => by rw [upd_other _ _ (by omega)]; exact h.ye t ht
  pi := by
    rw [upd_same]
    exact h.pi.mark hsd e.1 (h.edge side x hsd hx).2 e o (fun u z q => TM.push y q) (TM.new y)
  edge := fun t z ht hz => ⟨(h.edge t z ht hz).1, sv_mark_of (h.edge t z ht hz).2⟩
  next := by
    rw [upd_same]
    intro z hz
    rcases List.mem_append.1 hz with hz | hz
    · exact ⟨(h.next z hz).1, sv_mark_of (h.next z hz).2⟩
    · obtain rfl := List.mem_singleton.1 hz
      refine ⟨e.2.1, ?_⟩
      rw [sv_mark, if_pos ⟨rfl, rfl⟩]
  good := by rw [upd_other _ _ (by omega)]; exact h.good
  le := fun t z ht hz => by
    rw [sv_mark]
    split
    · exact Int.le_refl _
    · exact h.le t z ht hz
  calls := by rw [upd_other _ _ (by omega)]; exact h.calls
  left := by
    rw [upd_same]
    have := U_mark (s := s) hsd e.2.1 h1
    have := h.left
    simp
    omega

/-- What the walk along x's links has shown when j are done. -/
def Part (bs : List Bool) (a b : Nat) (s : Int) (side : Nat) (sv : Nat → Nat → Int) (Lx : List (Nat × Int)) (j : Nat) : Prop := ∀ j' p, j' < j → Lx[j']? = some p → p.1 ≠ ends a b (1 - side) ∧ (okOf bs p.1 → sv side p.1 = s)

theorem Part.more {Lx : List (Nat × Int)} {j : Nat} {p : Nat × Int} {sv' : Nat → Nat → Int} (h : Part bs a b s side sv Lx j) (hj : Lx[j]? = some p) (hm : ∀ z, sv side z = s → sv' side z = s) (hp : p.1 ≠ ends a b (1 - side) ∧ (okOf bs p.1 → sv' side p.1 = s)) : Part bs a b s side sv' Lx (j + 1) := by
  intro k q hk hq
  by_cases e : k = j
  · subst e
    rw [hj] at hq
    cases hq
    exact hp
  · exact ⟨(h k q (by omega) hq).1, fun o => hm _ ((h k q (by omega) hq).2 o)⟩

theorem Part.exp {Lx : List (Nat × Int)} {j x : Nat} (h : Part bs a b s side sv Lx j) (hj : Lx.length ≤ j) (hr : RepL nn Lx (c x)) : Exp nn c bs (ends a b) s sv side x := by
  intro y e
  obtain ⟨p, hp, rfl⟩ := hr.2.2 y e.2.1 e.2.2
  obtain ⟨k, hk⟩ := List.mem_iff_getElem?.1 hp
  have := (List.getElem?_eq_some_iff.1 hk).1
  exact h k p (by omega) hk

theorem ML.step (h : ML w base Bg Ba Bc nn cutv S s c bs a b E vE side U0 lim i wr r ys sv) (hsd : side < 2) {x : Nat} (hx : (E side)[i]? = some x) (he : Exp nn c bs (ends a b) s sv side x) : ML w base Bg Ba Bc nn cutv S s c bs a b E vE side U0 lim (i + 1) wr r ys sv where
  pm := h.pm
  re := h.re
  ye := h.ye
  pi := h.pi.weaken fun t z ht hz hs q => by
    unfold TM at q
    by_cases e : t = side
    · subst e
      rw [if_pos rfl] at q
      rcases q with ⟨j, hj, hz⟩ | q
      · by_cases e' : j = i
        · subst e'
          rw [hx] at hz
          cases hz
          exact .inr he
        · refine .inl ?_
          unfold TM
          rw [if_pos rfl]
          exact .inl ⟨j, by omega, hz⟩
      · refine .inl ?_
        unfold TM
        rw [if_pos rfl]
        exact .inr q
    · rw [if_neg e] at q
      refine .inl ?_
      unfold TM
      rw [if_neg e]
      exact q
  edge := h.edge
  next := h.next
  good := h.good
  le := h.le
  calls := h.calls
  left := h.left

theorem ML.cellE (h : ML w base Bg Ba Bc nn cutv S s c bs a b E vE side U0 lim i wr r ys sv) (hsd : side < 2) {g n cap k x : Nat} (hv : vE = .slice (some ⟨g, 0, none⟩) n cap) (hx : (E side)[k]? = some x) : wr.cell? ⟨g, k, none⟩ = some (.int .i64 (x : Int)) := by
  have ho := h.pm.fam.1 side (by omega)
  simp only [h.re, h.ye side hsd, hv] at ho
  obtain ⟨ao', cap', e, _⟩ := owns_form ho
  cases e
  exact owns_cell ho (by simp [hx, nat64])

theorem ML.cellR (h : ML w base Bg Ba Bc nn cutv S s c bs a b E vE side U0 lim i wr r ys sv) (hsd : side < 2) : wr.cell? ⟨Bg, 5 + side, none⟩ = some vE :=
  (h.pm.g.cell (by omega)).trans (congrArg some ((gfun_at _ _ _ _ _ _ _).trans h.re))

theorem sw_at (i j : Nat) : sw i j i = j := if_pos rfl
theorem sw_out {i j k : Nat} (h1 : k ≠ i) (h2 : k ≠ j) : sw i j k = k := by unfold sw; rw [if_neg h1, if_neg h2]

/-- The round of a side is over. -/
theorem ML.over (h : ML w base Bg Ba Bc nn cutv S s c bs a b E vE side U0 lim i wr r ys sv) (hsd : side < 2) (hi : (E side).length ≤ i) (hlim : lim + 3200 * m ≤ 262400 + 3200) (h0 : U0 < m) (hu0 : U0 ≤ 80) (he : ∀ t, t < 2 → (E t).length ≤ 80)
    (hp : PM w base Bg Ba Bc nn cutv S w2 s (fun k => r (sw side (2 + side) k)) (fun k => ys (sw side (2 + side) k)) sv) :
    ∃ m', m' < m ∧ OL w base Bg Ba Bc nn cutv S s c bs a b m' w2 (fun k => r (sw side (2 + side) k)) (fun k => ys (sw side (2 + side) k)) sv := by
  have y4 : ys (sw side (2 + side) 4) = ys 4 := by rw [sw_out (by omega) (by omega)]
  have ySide : ys (sw side (2 + side) side) = ys (2 + side) := by rw [sw_at]
  have yOther : ∀ t, t < 2 → t ≠ side → ys (sw side (2 + side) t) = E t := fun t ht hne => by rw [sw_out hne (by omega)]; exact h.ye t ht
  have hleft := h.left
  have hcalls := h.calls
  have hm : U nn s sv + (if ys (sw side (2 + side) 0) ≠ [] ∧ ys (sw side (2 + side) 1) ≠ [] then 1 else 0) < m := by
    split
    · rename_i q
      have : ys (2 + side) ≠ [] := by
        match side, hsd, q, ySide with
        | 0, _, q, e => rw [← e]; exact q.1
        | 1, _, q, e => rw [← e]; exact q.2
      have : 0 < (ys (2 + side)).length := List.length_pos_iff.2 this
      omega
    · omega
  refine ⟨_, hm, hp, ?_, ?_, ?_, ?_, h.le, ?_, Nat.le_refl _⟩
  · refine h.pi.weaken fun t x ht hx hs q => .inl ?_
    show x ∈ ys (sw side (2 + side) t)
    unfold TM at q
    by_cases e : t = side
    · subst e
      rw [ySide]
      rw [if_pos rfl] at q
      rcases q with ⟨j, hj, hz⟩ | q
      · have := (List.getElem?_eq_some_iff.1 hz).1
        omega
      · exact q
    · rw [yOther t ht e]
      rwa [if_neg e] at q
  · intro t x ht hx
    by_cases e : t = side
    · subst e
      rw [ySide] at hx
      exact h.next x hx
    · rw [yOther t ht e] at hx
      exact h.edge t x ht hx
  · intro t ht
    by_cases e : t = side
    · subst e
      rw [ySide]
      omega
    · rw [yOther t ht e]
      exact he t ht
  · rw [y4]; exact h.good
  · rw [y4]
    omega
end
end Go.Proofs.Ybulkfeps.lawS7805BWhole
