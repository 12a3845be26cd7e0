import Derived.Test.YbulkfepsBpm
namespace Go.Proofs.Ybulkfeps.lawS7805BWhole
open Go.ChangeShapes Go.WideShapes Go.ChangeAt Go.RowKit
set_option linter.unusedVariables false

/-- The cells of a member's links. -/
def linkCells : List (Nat × Int) → List Value
  | [] => []
  | p :: L => .int .i32 (p.1 : Int) :: .int .i32 p.2 :: linkCells L

theorem linkCells_at : ∀ (L : List (Nat × Int)) (j : Nat) (p : Nat × Int), L[j]? = some p → (linkCells L)[j * 2]? = some (.int .i32 (p.1 : Int)) ∧ (linkCells L)[j * 2 + 1]? = some (.int .i32 p.2)
  | [], j, p, h => by simp at h
  | q :: L, 0, p, h => by
    simp at h
    subst h
    exact ⟨rfl, rfl⟩
  | q :: L, j + 1, p, h => by
    have := linkCells_at L j p (by simpa using h)
    rw [show (j + 1) * 2 = j * 2 + 2 by omega]
    exact this

theorem linkCells_length : ∀ L : List (Nat × Int), (linkCells L).length = L.length * 2
  | [] => rfl
  | p :: L => by
    simp only [linkCells, List.length_cons, linkCells_length L]
    omega

theorem linkCells_append : ∀ L M : List (Nat × Int), linkCells (L ++ M) = linkCells L ++ linkCells M
  | [], M => rfl
  | p :: L, M => by simp [linkCells, linkCells_append L M]

/-- The links in memory. -/
structure AdjIn (w : World) (base Ba nn : Nat) (av : Nat → Value) (L : Nat → List (Nat × Int)) (c : Nat → Nat → Int) : Prop where
  blk : Blk w Ba 64 nn av
  row : ∀ x, x < nn → w.ownsRow 0 66 2 (av x) (L x).length (linkCells (L x))
  rep : ∀ x, x < nn → RepL nn (L x) (c x)
  la : Ba < base
  lr : ∀ x k, x < nn → (av x).ownBlock = some k → k < base

theorem AdjIn.keep {w w' : World} {base Ba nn : Nat} {av : Nat → Value} {L : Nat → List (Nat × Int)} {c : Nat → Nat → Int} (h : AdjIn w base Ba nn av L c) (hB : w'.heap[Ba]? = w.heap[Ba]?) (hr : ∀ x k, x < nn → (av x).ownBlock = some k → w'.heap[k]? = w.heap[k]?) : AdjIn w' base Ba nn av L c :=
  ⟨h.blk.frame hB, fun x hx => owns_frame (h.row x hx) (fun k hk => hr x k hx hk), h.rep, h.la, h.lr⟩

theorem own_type {w : World} {lo : Nat} {e : TypeId} {size n k : Nat} {v : Value} {xs : List Value} (h : w.ownsRow lo e size v n xs) (hk : v.ownBlock = some k) : ∃ cur, w.heap[k]? = some (.cells cur e (0, 0)) := by
  rcases h.2 with ⟨rfl, _⟩ | ⟨g, cap, cur, rfl, _, hg, _⟩
  · cases hk
  · cases hk
    exact ⟨cur, hg⟩

theorem own_ne {w : World} {lo : Nat} {e e' : TypeId} {size n k b m : Nat} {v : Value} {xs : List Value} {g : Nat → Value} (h : w.ownsRow lo e size v n xs) (hk : v.ownBlock = some k) (hb : Blk w b e' m g) (he : e ≠ e') : k ≠ b := by
  obtain ⟨cur, hc⟩ := own_type h hk
  intro q
  subst q
  have := hc.symm.trans hb
  simp only [Option.some.injEq, Obj.cells.injEq] at this
  exact he this.2.1

section
variable {base Bg Ba Bc nn : Nat} {cutv : Value} {S : Nat → Nat} {w : World} {s : Int} {r : Nat → Value} {ys : Nat → List Nat} {sv : Nat → Nat → Int} {w0 : World}

/-- A block of another type is none that a search writes. -/
theorem PM.not_pw (h : PM w0 base Bg Ba Bc nn cutv S w s r ys sv) {b m : Nat} {e : TypeId} {g : Nat → Value} (hb : Blk w b e m g) (h1 : e ≠ 57) (h2 : e ≠ 3) (h3 : e ≠ 48) : ¬ PW Bg Bc S b := by
  rintro (q | q | q | q)
  · exact hb.ne h.g h1 q
  · exact hb.ne (h.sn 0 (by omega)) h2 q
  · exact hb.ne (h.sn 1 (by omega)) h2 q
  · exact hb.ne h.box h3 q
theorem PM.not_pw_row (h : PM w0 base Bg Ba Bc nn cutv S w s r ys sv) {lo size n k : Nat} {e : TypeId} {v : Value} {xs : List Value} (ho : w.ownsRow lo e size v n xs) (hk : v.ownBlock = some k) (h1 : e ≠ 57) (h2 : e ≠ 3) (h3 : e ≠ 48) : ¬ PW Bg Bc S k := by
  rintro (q | q | q | q)
  · exact own_ne ho hk h.g h1 q
  · exact own_ne ho hk (h.sn 0 (by omega)) h2 q
  · exact own_ne ho hk (h.sn 1 (by omega)) h2 q
  · exact own_ne ho hk h.box h3 q
end

/-- The links stand through a search. -/
theorem AdjIn.through {base Bg Ba Bc nn : Nat} {cutv : Value} {S : Nat → Nat} {w w' : World} {s s' : Int} {r r' : Nat → Value} {ys ys' : Nat → List Nat} {sv sv' : Nat → Nat → Int} {av : Nat → Value} {L : Nat → List (Nat × Int)} {c : Nat → Nat → Int} {w0 : World}
    (h : AdjIn w base Ba nn av L c) (p : PM w0 base Bg Ba Bc nn cutv S w s r ys sv) (p' : PM w base Bg Ba Bc nn cutv S w' s' r' ys' sv') : AdjIn w' base Ba nn av L c :=
  h.keep (p'.kp.block h.la (p.not_pw h.blk (by decide) (by decide) (by decide))) (fun x k hx hk => p'.kp.block (h.lr x k hx hk) (p.not_pw_row (h.row x hx) hk (by decide) (by decide) (by decide)))

section
variable (nn : Nat) (c : Nat → Nat → Int) (bs : List Bool) (rt : Nat → Nat) (s : Int) (sv : Nat → Nat → Int)

/-- Side t has gone through x's links. -/
def Exp (t x : Nat) : Prop := ∀ y, adjOf nn c x y → y ≠ rt (1 - t) ∧ (okOf bs y → sv t y = s)

/-- The search from both sides; T: what is still to be gone through. -/
structure PI (T : Nat → Nat → Prop) : Prop where
  root : ∀ t, t < 2 → sv t (rt t) = s
  rch : ∀ t x, t < 2 → x < nn → sv t x = s → Rch (adjOf nn c) (okOf bs) (rt t) x
  todo : ∀ t x, t < 2 → x < nn → sv t x = s → T t x ∨ Exp nn c bs rt s sv t x

/-- How many are not marked by either side. -/
def U : Nat := unseen (fun x => decide (sv 0 x = s)) nn + unseen (fun x => decide (sv 1 x = s)) nn
end

section
variable {nn : Nat} {c : Nat → Nat → Int} {bs : List Bool} {rt : Nat → Nat} {s : Int} {sv : Nat → Nat → Int} {T T' : Nat → Nat → Prop}

theorem PI.weaken (h : PI nn c bs rt s sv T) (hT : ∀ t x, t < 2 → x < nn → sv t x = s → T t x → T' t x ∨ Exp nn c bs rt s sv t x) : PI nn c bs rt s sv T' :=
  ⟨h.root, h.rch, fun t x ht hx hs => by
    rcases h.todo t x ht hx hs with q | q
    · exact hT t x ht hx hs q
    · exact .inr q⟩

theorem sv_mark (t y u x : Nat) : upd sv t (upd (sv t) y s) u x = if u = t ∧ x = y then s else sv u x := by
  unfold upd
  by_cases h1 : u = t
  · subst h1
    by_cases h2 : x = y
    · simp [h2]
    · simp [h2]
  · simp [h1]

theorem sv_mark_of {t y u x : Nat} (h : sv u x = s) : upd sv t (upd (sv t) y s) u x = s := by
  rw [sv_mark]
  split
  · rfl
  · exact h

theorem Exp.mark {t y u x : Nat} (h : Exp nn c bs rt s sv u x) : Exp nn c bs rt s (upd sv t (upd (sv t) y s)) u x := fun z hz =>
  ⟨(h z hz).1, fun o => sv_mark_of ((h z hz).2 o)⟩

/-- One more is marked. -/
theorem PI.mark (h : PI nn c bs rt s sv T) {t x y : Nat} (ht : t < 2) (hx : x < nn) (hs : sv t x = s) (e : adjOf nn c x y) (o : okOf bs y) (hT : ∀ u z, T u z → T' u z) (hy : T' t y) :
    PI nn c bs rt s (upd sv t (upd (sv t) y s)) T' := by
  refine ⟨fun u hu => sv_mark_of (h.root u hu), fun u z hu hz hs' => ?_, fun u z hu hz hs' => ?_⟩
  · rw [sv_mark] at hs'
    split at hs'
    · rename_i q
      obtain ⟨rfl, rfl⟩ := q
      exact (h.rch u x hu hx hs).step e o
    · exact h.rch u z hu hz hs'
  · rw [sv_mark] at hs'
    split at hs'
    · rename_i q
      obtain ⟨rfl, rfl⟩ := q
      exact .inl hy
    · rcases h.todo u z hu hz hs' with q | q
      · exact .inl (hT u z q)
      · exact .inr q.mark

theorem U_mark {t y : Nat} (ht : t < 2) (hy : y < nn) (hn : sv t y ≠ s) : U nn s (upd sv t (upd (sv t) y s)) + 1 = U nn s sv := by
  have key : ∀ f : Nat → Int, f y ≠ s → unseen (fun x => decide (upd f y s x = s)) nn + 1 = unseen (fun x => decide (f x = s)) nn := by
    intro f hf
    have := unseen_mark (fun x => decide (f x = s)) y (by simpa using hf) nn hy
    rw [← this]
    congr 2
    funext x
    unfold upd
    split <;> simp
  unfold U
  match t, ht with
  | 0, _ =>
    rw [upd_same, upd_other _ _ (show (1 : Nat) ≠ 0 by omega)]
    have := key (sv 0) hn
    omega
  | 1, _ =>
    rw [upd_same, upd_other _ _ (show (0 : Nat) ≠ 1 by omega)]
    have := key (sv 1) hn
    omega

theorem U_le : U nn s sv ≤ 2 * nn := by
  have h1 := unseen_le (fun x => decide (sv 0 x = s)) nn
  have h2 := unseen_le (fun x => decide (sv 1 x = s)) nn
  unfold U
  omega

theorem adj_sym {nn : Nat} {c : Nat → Nat → Int} (h : ∀ x y, c x y = c y x) (x y : Nat) (e : adjOf nn c x y) : adjOf nn c y x := ⟨e.2.1, e.1, by rw [h]; exact e.2.2⟩

/-- The two sides meet. -/
theorem PI.met (h : PI nn c bs rt s sv T) (hsym : ∀ x y, c x y = c y x) {t x y : Nat} (ht : t < 2) (hs : sv t x = s) (e : adjOf nn c x y) (hy : sv (1 - t) y = s) : Conn (adjOf nn c) (okOf bs) (rt 0) (rt 1) := by
  match t, ht with
  | 0, _ => exact meet_any (adj_sym hsym) (h.rch 0 x (by omega) e.1 hs) e (h.rch 1 y (by omega) e.2.1 hy)
  | 1, _ => exact meet_any (adj_sym hsym) (h.rch 0 y (by omega) e.2.1 hy) (adj_sym hsym _ _ e) (h.rch 1 x (by omega) e.1 hs)

/-- A side has nothing left: the two are apart. -/
theorem PI.apart (h : PI nn c bs rt s sv T) (hsym : ∀ x y, c x y = c y x) (hne : rt 0 ≠ rt 1) (hr : ∀ t, t < 2 → rt t < nn) {t : Nat} (ht : t < 2) (hno : ∀ x, ¬ T t x) : ¬ Conn (adjOf nn c) (okOf bs) (rt 0) (rt 1) := by
  have key : ¬ Conn (adjOf nn c) (okOf bs) (rt t) (rt (1 - t)) := by
    refine not_conn (fun x => x < nn ∧ sv t x = s) ⟨hr t ht, h.root t ht⟩ ?_ ?_
    · match t, ht with
      | 0, _ => exact hne
      | 1, _ => exact hne.symm
    · rintro x y ⟨hx, hs⟩ e
      rcases h.todo t x ht hx hs with q | q
      · exact absurd q (hno x)
      · exact ⟨(q y e).1, fun o => ⟨e.2.1, (q y e).2 o⟩⟩
  match t, ht with
  | 0, _ => exact key
  | 1, _ => exact fun q => key (q.symm (adj_sym hsym))
end

/-- What is to be gone through at the head of the search. -/
def TH (E : Nat → List Nat) (u x : Nat) : Prop := x ∈ E u
/-- What is to be gone through while side t stands at i of its frontier. -/
def TM (E : Nat → List Nat) (t i : Nat) (N : List Nat) (u x : Nat) : Prop := if u = t then (∃ j, i ≤ j ∧ (E t)[j]? = some x) ∨ x ∈ N else x ∈ E u

theorem TM.start {E : Nat → List Nat} {t u x : Nat} (h : TH E u x) : TM E t 0 [] u x := by
  unfold TM
  split
  · rename_i e
    subst e
    obtain ⟨j, hj⟩ := List.mem_iff_getElem?.1 h
    exact .inl ⟨j, Nat.zero_le _, hj⟩
  · exact h

theorem TM.push {E : Nat → List Nat} {t i : Nat} {N : List Nat} (y : Nat) {u x : Nat} (h : TM E t i N u x) : TM E t i (N ++ [y]) u x := by
  unfold TM at h ⊢
  split
  · rename_i e
    rw [if_pos e] at h
    rcases h with h | h
    · exact .inl h
    · exact .inr (List.mem_append.2 (.inl h))
  · rename_i e
    rwa [if_neg e] at h

theorem TM.new {E : Nat → List Nat} {t i : Nat} {N : List Nat} (y : Nat) : TM E t i (N ++ [y]) t y := by
  unfold TM
  rw [if_pos rfl]
  exact .inr (by simp)
end Go.Proofs.Ybulkfeps.lawS7805BWhole
