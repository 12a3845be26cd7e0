import Derived.Laws.Rows
namespace Go.Proofs.Ybulkfeps.lawS7805BWhole
set_option linter.unusedVariables false

/-- A function turned at one place. -/
def upd {α : Type} (f : Nat → α) (y : Nat) (v : α) : Nat → α := fun x => if x = y then v else f x

theorem upd_same {α : Type} (f : Nat → α) (y : Nat) (v : α) : upd f y v y = v := if_pos rfl
theorem upd_other {α : Type} (f : Nat → α) {x y : Nat} (v : α) (h : x ≠ y) : upd f y v x = f x := if_neg h

/-- How many of 0 .. n-1 are not marked. -/
def unseen (f : Nat → Bool) : Nat → Nat
  | 0 => 0
  | n + 1 => unseen f n + (if f n then 0 else 1)

theorem unseen_le (f : Nat → Bool) : ∀ n, unseen f n ≤ n
  | 0 => Nat.le_refl _
  | n + 1 => by
    have := unseen_le f n
    unfold unseen
    split <;> omega

theorem unseen_out (f : Nat → Bool) (y : Nat) (v : Bool) : ∀ n, n ≤ y → unseen (upd f y v) n = unseen f n
  | 0, _ => rfl
  | n + 1, h => by
    unfold unseen
    rw [unseen_out f y v n (by omega), upd_other f v (by omega)]

theorem unseen_mark (f : Nat → Bool) (y : Nat) (hf : f y = false) : ∀ n, y < n → unseen (upd f y true) n + 1 = unseen f n
  | 0, h => absurd h (Nat.not_lt_zero _)
  | n + 1, h => by
    unfold unseen
    by_cases e : y = n
    · subst e
      rw [unseen_out f y true y (Nat.le_refl _), upd_same, hf]
      simp
    · have := unseen_mark f y hf n (by omega)
      rw [upd_other f true (Ne.symm e)]
      omega

theorem unseen_none : ∀ n, unseen (fun _ => false) n = n
  | 0 => rfl
  | n + 1 => by
    unfold unseen
    rw [unseen_none n]
    simp

section
variable (adj : Nat → Nat → Prop) (ok : Nat → Prop)

/-- y is reached from a in k steps over members that are let pass. -/
def RchN (a : Nat) : Nat → Nat → Prop
  | 0, y => y = a
  | k + 1, y => ∃ x, RchN a k x ∧ adj x y ∧ ok y

def Rch (a y : Nat) : Prop := ∃ k, RchN adj ok a k y

def Conn (a b : Nat) : Prop := a = b ∨ ∃ x, Rch adj ok a x ∧ adj x b

variable {adj ok}

theorem Rch.root (a : Nat) : Rch adj ok a a := ⟨0, rfl⟩
theorem Rch.step {a x y : Nat} (h : Rch adj ok a x) (e : adj x y) (o : ok y) : Rch adj ok a y := by
  obtain ⟨k, hk⟩ := h
  exact ⟨k + 1, x, hk, e, o⟩

theorem meet (sym : ∀ x y, adj x y → adj y x) {a b : Nat} : ∀ k x y, Rch adj ok a x → adj x y → RchN adj ok b k y → Conn adj ok a b
  | 0, x, y, h, e, hy => by
    have hy : y = b := hy
    subst hy
    exact .inr ⟨x, h, e⟩
  | k + 1, x, y, h, e, hy => by
    obtain ⟨z, hz, hzy, hoy⟩ := hy
    exact meet sym k y z (h.step e hoy) (sym _ _ hzy) hz

theorem meet_any (sym : ∀ x y, adj x y → adj y x) {a b x y : Nat} (h : Rch adj ok a x) (e : adj x y) (hy : Rch adj ok b y) : Conn adj ok a b := by
  obtain ⟨k, hk⟩ := hy
  exact meet sym k x y h e hk

theorem Conn.symm (sym : ∀ x y, adj x y → adj y x) {a b : Nat} (h : Conn adj ok a b) : Conn adj ok b a := by
  rcases h with rfl | ⟨x, hx, e⟩
  · exact .inl rfl
  · exact meet_any sym (Rch.root b) (sym _ _ e) hx

/-- A set that holds a, is closed, and meets b nowhere. -/
theorem not_conn {a b : Nat} (S : Nat → Prop) (ha : S a) (hne : a ≠ b) (hcl : ∀ x y, S x → adj x y → y ≠ b ∧ (ok y → S y)) : ¬ Conn adj ok a b := by
  have hall : ∀ k y, RchN adj ok a k y → S y := by
    intro k
    induction k with
    | zero => intro y hy; have hy : y = a := hy; exact hy ▸ ha
    | succ k ih =>
      intro y hy
      obtain ⟨x, hx, e, o⟩ := hy
      exact (hcl x y (ih x hx) e).2 o
  rintro (h | ⟨x, ⟨k, hk⟩, e⟩)
  · exact hne h
  · exact (hcl x b (hall k x hk) e).1 rfl
end

/-- The links of one member stand for a row of counts. -/
def RepL (nn : Nat) (L : List (Nat × Int)) (c : Nat → Int) : Prop :=
  (∀ p, p ∈ L → p.1 < nn ∧ p.2 = c p.1 ∧ p.2 ≠ 0) ∧ (L.map (·.1)).Nodup ∧ ∀ y, y < nn → c y ≠ 0 → ∃ p, p ∈ L ∧ p.1 = y

/-- How many counts are not zero. -/
def nz (c : Nat → Int) (n : Nat) : Nat := ((List.range n).filter (fun y => decide (c y ≠ 0))).length

theorem nz_succ (c : Nat → Int) (n : Nat) : nz c (n + 1) = nz c n + (if c n = 0 then 0 else 1) := by
  unfold nz
  rw [List.range_succ, List.filter_append, List.length_append]
  by_cases h : c n = 0 <;> simp [h]

theorem nz_le (c : Nat → Int) (n : Nat) : nz c n ≤ n := by
  have := List.length_filter_le (fun y => decide (c y ≠ 0)) (List.range n)
  simpa [nz] using this

theorem RepL.length {nn : Nat} {L : List (Nat × Int)} {c : Nat → Int} (h : RepL nn L c) : L.length = nz c nn := by
  have hp : (L.map (·.1)).Perm ((List.range nn).filter (fun y => decide (c y ≠ 0))) := by
    rw [List.perm_ext_iff_of_nodup h.2.1 (List.nodup_range.sublist List.filter_sublist)]
    intro y
    simp only [List.mem_map, List.mem_filter, List.mem_range, decide_eq_true_eq]
    constructor
    · rintro ⟨p, hp, rfl⟩
      have := h.1 p hp
      exact ⟨this.1, this.2.1 ▸ this.2.2⟩
    · rintro ⟨h1, h2⟩
      exact h.2.2 y h1 h2
  have := hp.length_eq
  simpa [nz] using this

theorem RepL.nil (nn : Nat) : RepL nn [] (fun _ => 0) := ⟨by simp, by simp, fun y _ h => absurd rfl h⟩

/-- No link with b: the count is zero. -/
theorem RepL.zero {nn : Nat} {L : List (Nat × Int)} {c : Nat → Int} (h : RepL nn L c) {b : Nat} (hb : b < nn) (hno : ∀ p, p ∈ L → p.1 ≠ b) : c b = 0 := by
  by_cases e : c b = 0
  · exact e
  · obtain ⟨p, hp, he⟩ := h.2.2 b hb e
    exact absurd he (hno p hp)

theorem RepL.same {nn : Nat} {L : List (Nat × Int)} {c : Nat → Int} (h : RepL nn L c) (b : Nat) {d : Int} (hd : d = 0) : RepL nn L (upd c b (c b + d)) := by
  have e : upd c b (c b + d) = c := by
    funext x
    unfold upd
    split
    · subst hd; rename_i e; subst e; simp
    · rfl
  rw [e]
  exact h

theorem RepL.push {nn : Nat} {L : List (Nat × Int)} {c : Nat → Int} (h : RepL nn L c) {b : Nat} (hb : b < nn) (hno : ∀ p, p ∈ L → p.1 ≠ b) {d : Int} (hd : d ≠ 0) :
    RepL nn (L ++ [(b, d)]) (upd c b (c b + d)) := by
  have h0 := h.zero hb hno
  refine ⟨?_, ?_, ?_⟩
  · intro p hp
    rcases List.mem_append.1 hp with hp | hp
    · rw [upd_other c _ (hno p hp)]
      exact h.1 p hp
    · obtain rfl := List.mem_singleton.1 hp
      refine ⟨hb, ?_, hd⟩
      rw [upd_same, h0]
      simp
  · rw [List.map_append, List.nodup_append]
    refine ⟨h.2.1, by simp, ?_⟩
    intro x hx y hy
    obtain ⟨p, hp, rfl⟩ := List.mem_map.1 hx
    simp at hy
    subst hy
    exact hno p hp
  · intro y hy hc
    by_cases e : y = b
    · subst e
      exact ⟨(y, d), by simp, rfl⟩
    · rw [upd_other c _ e] at hc
      obtain ⟨p, hp, he⟩ := h.2.2 y hy hc
      exact ⟨p, List.mem_append.2 (.inl hp), he⟩

theorem map_set_same {α β : Type} (f : α → β) : ∀ (L : List α) (i : Nat) (x : α), (∀ y, L[i]? = some y → f x = f y) → (L.set i x).map f = L.map f
  | [], _, _, _ => rfl
  | y :: r, 0, x, h => by
    have := h y rfl
    simp [this]
  | y :: r, i + 1, x, h => by
    simp only [List.set_cons_succ, List.map_cons]
    rw [map_set_same f r i x (fun z hz => h z (by simpa using hz))]

theorem nodup_at {α β : Type} (f : α → β) {L : List α} (hn : (L.map f).Nodup) {i j : Nat} {x y : α} (hi : L[i]? = some x) (hj : L[j]? = some y) (e : f x = f y) : i = j := by
  have h1 : (L.map f)[i]? = some (f x) := by simp [hi]
  have h2 : (L.map f)[j]? = some (f y) := by simp [hj]
  have hil : i < (L.map f).length := (List.getElem?_eq_some_iff.1 h1).1
  exact (List.getElem?_inj hil hn).1 (h1.trans (by rw [h2, e]))

theorem RepL.set {nn : Nat} {L : List (Nat × Int)} {c : Nat → Int} (h : RepL nn L c) {i b : Nat} {m d : Int} (hi : L[i]? = some (b, m)) (hne : m + d ≠ 0) :
    RepL nn (L.set i (b, m + d)) (upd c b (c b + d)) := by
  have hm := h.1 (b, m) (List.mem_of_getElem? hi)
  have hmap : (L.set i (b, m + d)).map (·.1) = L.map (·.1) := map_set_same _ L i _ (fun y hy => by rw [hi] at hy; cases hy; rfl)
  have hil : i < L.length := (List.getElem?_eq_some_iff.1 hi).1
  refine ⟨?_, by rw [hmap]; exact h.2.1, ?_⟩
  · intro p hp
    obtain ⟨j, hj⟩ := List.mem_iff_getElem?.1 hp
    by_cases e : i = j
    · subst e
      rw [List.getElem?_set_self hil] at hj
      cases hj
      refine ⟨hm.1, ?_, hne⟩
      show m + d = _
      have h2 : m = c b := hm.2.1
      rw [upd_same, h2]
    · rw [List.getElem?_set_ne e] at hj
      have hpj := h.1 p (List.mem_of_getElem? hj)
      have hpb : p.1 ≠ b := fun e' => e (nodup_at _ h.2.1 hi hj e'.symm)
      rw [upd_other c _ hpb]
      exact hpj
  · intro y hy hc
    by_cases e : y = b
    · subst e
      exact ⟨(y, m + d), List.mem_iff_getElem?.2 ⟨i, by rw [List.getElem?_set_self hil]⟩, rfl⟩
    · rw [upd_other c _ e] at hc
      obtain ⟨p, hp, he⟩ := h.2.2 y hy hc
      obtain ⟨j, hj⟩ := List.mem_iff_getElem?.1 hp
      have hij : i ≠ j := by
        intro e'
        subst e'
        rw [hi] at hj
        cases hj
        exact e he.symm
      exact ⟨p, List.mem_iff_getElem?.2 ⟨j, by rw [List.getElem?_set_ne hij]; exact hj⟩, he⟩

/-- The link at i goes: the last one takes its place. -/
theorem RepL.drop {nn : Nat} {L : List (Nat × Int)} {c : Nat → Int} (h : RepL nn L c) {i b : Nat} {m d : Int} (hi : L[i]? = some (b, m)) (hz : m + d = 0) {q : Nat × Int} (hq : L[L.length - 1]? = some q) :
    RepL nn ((L.set i q).take (L.length - 1)) (upd c b (c b + d)) := by
  have hm := h.1 (b, m) (List.mem_of_getElem? hi)
  have hcb : c b + d = 0 := by have h2 : m = c b := hm.2.1; rw [← h2]; exact hz
  rw [hcb]
  have hil : i < L.length := (List.getElem?_eq_some_iff.1 hi).1
  have get : ∀ j, ((L.set i q).take (L.length - 1))[j]? = if j < L.length - 1 then (if i = j then some q else L[j]?) else none := by
    intro j
    rw [List.getElem?_take]
    by_cases h1 : j < L.length - 1
    · rw [if_pos h1, if_pos h1, List.getElem?_set]
      by_cases h2 : i = j
      · subst h2; simp [hil]
      · simp [h2]
    · simp [h1]
  have src : ∀ j p, ((L.set i q).take (L.length - 1))[j]? = some p → ∃ j', L[j']? = some p ∧ j' ≠ i ∧ j' = (if i = j then L.length - 1 else j) := by
    intro j p hj
    rw [get] at hj
    by_cases h1 : j < L.length - 1
    · rw [if_pos h1] at hj
      by_cases h2 : i = j
      · rw [if_pos h2] at hj
        cases hj
        exact ⟨L.length - 1, hq, by omega, by rw [if_pos h2]⟩
      · rw [if_neg h2] at hj
        exact ⟨j, hj, fun e => h2 e.symm, by rw [if_neg h2]⟩
    · rw [if_neg h1] at hj
      cases hj
  refine ⟨?_, ?_, ?_⟩
  · intro p hp
    obtain ⟨j, hj⟩ := List.mem_iff_getElem?.1 hp
    obtain ⟨j', hj', hne, _⟩ := src j p hj
    have hpb : p.1 ≠ b := fun e => hne (nodup_at _ h.2.1 hj' hi e)
    rw [upd_other c _ hpb]
    exact h.1 p (List.mem_of_getElem? hj')
  · rw [List.nodup_iff_pairwise_ne, List.pairwise_iff_getElem]
    intro j k hj hk hjk e
    simp only [List.length_map] at hj hk
    simp only [List.getElem_map] at e
    have e1 := List.getElem?_eq_getElem hj
    have e2 := List.getElem?_eq_getElem hk
    obtain ⟨j', a1, a2, a3⟩ := src j _ e1
    obtain ⟨k', b1, b2, b3⟩ := src k _ e2
    have hjk' := nodup_at (·.1) h.2.1 a1 b1 e
    have hk2 : k < L.length - 1 := by simp at hk; omega
    rw [a3, b3] at hjk'
    split at hjk' <;> split at hjk' <;> omega
  · intro y hy hc
    by_cases e : y = b
    · subst e
      exact absurd (upd_same c y 0) hc
    · rw [upd_other c _ e] at hc
      obtain ⟨p, hp, he⟩ := h.2.2 y hy hc
      obtain ⟨j, hj⟩ := List.mem_iff_getElem?.1 hp
      have hij : i ≠ j := by
        intro e'
        subst e'
        rw [hi] at hj
        cases hj
        exact e he.symm
      have hjl : j < L.length := (List.getElem?_eq_some_iff.1 hj).1
      refine ⟨p, List.mem_iff_getElem?.2 ?_, he⟩
      by_cases h1 : j < L.length - 1
      · exact ⟨j, by rw [get, if_pos h1, if_neg hij]; exact hj⟩
      · have hjl : j = L.length - 1 := by omega
        subst hjl
        rw [hq] at hj
        cases hj
        exact ⟨i, by rw [get, if_pos (by omega), if_pos rfl]⟩

end Go.Proofs.Ybulkfeps.lawS7805BWhole
