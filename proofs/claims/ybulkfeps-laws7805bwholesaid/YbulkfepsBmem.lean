import Derived.Test.YbulkfepsBplain
import Derived.Below
import Derived.Deep.RegionLaw
import Derived.Laws.AppendOwn
import Derived.WalkSmall
namespace Go.Proofs.Ybulkfeps.lawS7805BWhole
open Go.RowKit
set_option linter.unusedVariables false

/-- The run outside memory, and the blocks under B that M does not name, are as they were. -/
def Keep (B : Nat) (M : Nat → Prop) (w w' : World) : Prop :=
  w'.os = w.os ∧ w'.tape = w.tape ∧ w'.output = w.output ∧ w.heap.size ≤ w'.heap.size ∧ ∀ k, k < B → ¬ M k → w'.heap[k]? = w.heap[k]?

section
variable {B : Nat} {M : Nat → Prop} {a w w' : World}
theorem Keep.refl (B : Nat) (M : Nat → Prop) (w : World) : Keep B M w w := ⟨rfl, rfl, rfl, Nat.le_refl _, fun _ _ _ => rfl⟩
theorem Keep.trans (h : Keep B M a w) (k : Keep B M w w') : Keep B M a w' :=
  ⟨k.1.trans h.1, k.2.1.trans h.2.1, k.2.2.1.trans h.2.2.1, Nat.le_trans h.2.2.2.1 k.2.2.2.1, fun i hi hm => (k.2.2.2.2 i hi hm).trans (h.2.2.2.2 i hi hm)⟩
theorem Keep.mono {B' : Nat} {M' : Nat → Prop} (h : Keep B M w w') (hB : B' ≤ B) (hM : ∀ k, k < B' → M k → M' k) : Keep B' M' w w' :=
  ⟨h.1, h.2.1, h.2.2.1, h.2.2.2.1, fun i hi hm => h.2.2.2.2 i (Nat.lt_of_lt_of_le hi hB) (fun q => hm (hM i hi q))⟩
theorem Keep.drew (h : Keep B M a w) : Keep B M a w.drew := h
theorem Keep.drewN (h : Keep B M a w) (n : Nat) : Keep B M a (w.drewN n) := h.trans ⟨rfl, rfl, rfl, Nat.le_refl _, fun _ _ _ => rfl⟩
theorem Keep.alloc (h : Keep B M a w) (hB : B ≤ w.heap.size) (o : Obj) : Keep B M a (w.alloc o) :=
  h.trans ⟨rfl, rfl, rfl, by show w.heap.size ≤ (w.heap.push o).size; simp, fun k hk _ => Below.heap_alloc w o k (Nat.lt_of_lt_of_le hk hB)⟩
theorem Keep.setCell (h : Keep B M a w) {p : Addr} (hp : B ≤ p.block ∨ M p.block) (u : Value) : Keep B M a (w.setCell p u) :=
  h.trans ⟨rfl, rfl, rfl, by simp [World.setCell], fun k hk hm => heap_setCell_other w p k u (fun e => by subst e; rcases hp with hp | hp; omega; exact hm hp)⟩
theorem Keep.grown {row : Option Nat} (h : Keep B M a w) (hg : w.grownBy w' row) (hB : B ≤ w.heap.size) (hr : ∀ k, row = some k → B ≤ k ∨ M k) : Keep B M a w' :=
  h.trans ⟨hg.os, hg.tape, hg.output, hg.size, fun k hk hm => hg.block k (Nat.lt_of_lt_of_le hk hB) (fun e => by rcases hr k e.symm with h | h; omega; exact hm h)⟩
theorem Keep.below {B' : Nat} (h : Keep B M w w') (hB : B' ≤ B) (hM : ∀ k, k < B' → ¬ M k) : Below B' w w' :=
  ⟨h.1, h.2.1, h.2.2.1, h.2.2.2.1, fun k hk => h.2.2.2.2 k (Nat.lt_of_lt_of_le hk hB) (hM k hk)⟩
theorem Keep.block (h : Keep B M w w') {k : Nat} (hk : k < B) (hm : ¬ M k) : w'.heap[k]? = w.heap[k]? := h.2.2.2.2 k hk hm
theorem Keep.cell (h : Keep B M w w') {p : Addr} (hk : p.block < B) (hm : ¬ M p.block) : w'.cell? p = w.cell? p := World.cell?_of_block (w := w) (h.block hk hm)
theorem Keep.size (h : Keep B M w w') : w.heap.size ≤ w'.heap.size := h.2.2.2.1
theorem Keep.ofBelow (h : Below B w w') (M : Nat → Prop) : Keep B M w w' := ⟨h.os, h.tape, h.output, h.size, fun k hk _ => h.block k hk⟩
end

theorem lt_of_block {w : World} {k : Nat} {o : Obj} (h : w.heap[k]? = some o) : k < w.heap.size := (Array.getElem?_eq_some_iff.1 h).1

section
variable {P : Program} (w : World)

/-- An append onto a row of the call's own, and which block the new value lies in: the old one or one of its own. -/
theorem run_append_tell (base : Nat) (t ty e : TypeId) (i : TypeInfo) (z : Value) (size bytes : Nat) (ht : P.underlying t = some (.slice e)) (hi : P.info? e = some i) (hz : i.zero = some z)
    (hsize : i.size = size) (hby : i.bytes = bytes) (hzs : z.cells.size = size) (hsz : 0 < size)
    (v : Value) (n : Nat) (xs : List Value) (hown : w.ownsRow base e size v n xs)
    (a : Addr) (m c : Nat) (news : List Value) (hl : news.length = m * size) (hnews : ∀ j u, news[j]? = some u → w.cell? (a.add j) = some u) (h1 : ∀ u ∈ news, u.oneCell' = true)
    (h63 : n + m ≤ maxLen) (hbytes : (n + m) * bytes ≤ 140737488355328) (hbase : base ≤ w.heap.size) :
    ∃ v' w', (Builtin.append_ #[t, t] ty #[v, .slice (some a) m c]).run P w = .ok v' w' ∧ w'.ownsRow base e size v' (n + m) (xs ++ news) ∧ w.grownBy w' v.ownBlock ∧
      ∀ k, v'.ownBlock = some k → v.ownBlock = some k ∨ w.heap.size ≤ k := by
  obtain ⟨v', w', hr, q1, q2, q3⟩ := run_append_own (P := P) w base t ty e i z size bytes ht hi hz hsize hby hzs hsz v n xs hown a m c news hl hnews h1 h63 hbytes hbase
  refine ⟨v', w', hr, q1, q2, ?_⟩
  have hsmall : n + m ≤ 9223372036854775807 := by simp only [maxLen] at h63; omega
  rcases hown.2 with ⟨rfl, rfl⟩ | ⟨g, cap, cur, rfl, hbg, hg, hnc, hcm, hcs, htake⟩
  · obtain rfl : xs = [] := List.eq_nil_of_length_eq_zero (by simpa using hown.1)
    obtain ⟨v2, w2, hr2, p1, _, _⟩ := run_append_own (P := P) w w.heap.size t ty e i z size bytes ht hi hz hsize hby hzs hsz (.slice none 0 0) 0 [] (World.ownsRow_nil w _ e size) a m c news hl hnews h1 h63 hbytes (Nat.le_refl _)
    have := hr.symm.trans hr2
    cases this
    intro k hk
    exact .inr (p1.lt k hk).1
  · by_cases hroom : n + m ≤ cap
    · have hfit : n * i.size + news.length ≤ cur.size := by rw [hl, hcs, hsize, ← Nat.add_mul]; exact Nat.mul_le_mul_right _ hroom
      have hr2 := run_append_room (P := P) w t ty e i ht hi g n cap cur hg a m c news (by rw [hsize]; exact hl) hnews h1 hroom hfit
      have := hr.symm.trans hr2
      cases this
      intro k hk
      exact .inl hk
    · have hr2 := run_append_grow (P := P) w t ty e i z ht hi hz ⟨g, 0, none⟩ n cap xs (by rw [hsize]; exact hown.1) (hown.cells (g := g) rfl) a m c news (by rw [hsize]; exact hl) hnews (by omega) (by omega) (growslice_fits (by omega) (by rw [hby]; exact hbytes))
      have := hr.symm.trans hr2
      cases this
      intro k hk
      simp [Value.ownBlock] at hk
      exact .inr (by omega)

/-- An append whose end is known, as one step of a region that draws. -/
theorem step_append_eq {ops : Array Oper} {o : Oper} {a : Act} {K : Act → World → Prop} {Q : Exit → Act → World → Prop} {E : Prop} {w : World}
    (hg : o.guard = none) (s x : Operand) (t ty : TypeId) (hop : o.op = Op.call { callee := Callee.builtin Builtin.append, args := #[s, x], argTypes := #[t, t] }) (hty : o.type = ty)
    (v xv v' : Value) (w' : World) (hs : a.eval s = v) (hx : a.eval x = xv) (hrun : (Builtin.append_ #[t, t] ty #[v, xv]).run P w = .ok v' w')
    (hK : K (a.put o.dst v') w') : if Region.wanted o (yielded ops a.tmps) = true then Oper.wp P o a w K Q else E := by
  have hw : Region.wanted o (yielded ops a.tmps) = true := by simp [Region.wanted, hg]
  rw [if_pos hw]
  subst hty
  unfold Oper.wp
  simp [execOp, hop, resolve, invoke, builtin, hs, hx, hrun, Result.andThen]
  exact hK

theorem wpList_append_eq {ops : Array Oper} {rest : List Oper} {o : Oper} {a : Act} {Q : Exit → Act → World → Prop} {w : World} (hgd : o.guard = none) (s x : Operand) (t ty : TypeId)
    (ho : o.op = .call { callee := .builtin .append, args := #[s, x], argTypes := #[t, t] }) (hty : o.type = ty)
    (v xv v' : Value) (w' : World) (hs : a.eval s = v) (hx : a.eval x = xv) (hrun : (Builtin.append_ #[t, t] ty #[v, xv]).run P w = .ok v' w')
    (h : wpList P ops Q rest (a.put o.dst v') w') : wpList P ops Q (o :: rest) a w :=
  wpList_plain hgd fun K hK => by
    subst hty
    unfold Oper.wp execOp
    simp only [ho, resolve, invoke, builtin, Sem.run_bind, Sem.run_pure, Result.andThen_ok, List.map_toArray, List.map_cons, List.map_nil, hs, hx, hrun]
    exact hK _ _ h
end

/-- A row that was made or appended to stands, where its block does. -/
theorem owns_frame {w w' : World} {base : Nat} {e : TypeId} {size n : Nat} {v : Value} {xs : List Value} (h : w.ownsRow base e size v n xs)
    (hf : ∀ k, v.ownBlock = some k → w'.heap[k]? = w.heap[k]?) : w'.ownsRow base e size v n xs := by
  refine ⟨h.1, ?_⟩
  rcases h.2 with h | ⟨g, cap, cur, rfl, hb, hg, rest⟩
  · exact .inl h
  · exact .inr ⟨g, cap, cur, rfl, hb, (hf g rfl).trans hg, rest⟩

/-- The value's own words. -/
theorem owns_form {w : World} {base : Nat} {e : TypeId} {size n : Nat} {v : Value} {xs : List Value} (h : w.ownsRow base e size v n xs) :
    ∃ ao cap, v = .slice ao n cap ∧ n ≤ cap ∧ cap ≤ maxLen ∧ (ao = none ∨ ∃ g, ao = some ⟨g, 0, none⟩) ∧ (ao = none → n = 0 ∧ cap = 0) := by
  rcases h.2 with ⟨rfl, rfl⟩ | ⟨g, cap, cur, rfl, hb, hg, h1, h2, _⟩
  · exact ⟨none, 0, rfl, Nat.le_refl _, Nat.zero_le _, .inl rfl, fun _ => ⟨rfl, rfl⟩⟩
  · exact ⟨_, cap, rfl, h1, h2, .inr ⟨g, rfl⟩, fun h => by cases h⟩

theorem owns_some {w : World} {base : Nat} {e : TypeId} {size n : Nat} {v : Value} {xs : List Value} (h : w.ownsRow base e size v n xs) (hn : 0 < n) :
    ∃ g cap, v = .slice (some ⟨g, 0, none⟩) n cap ∧ base ≤ g ∧ g < w.heap.size ∧ n ≤ cap ∧ cap ≤ maxLen := by
  rcases h.2 with ⟨rfl, rfl⟩ | ⟨g, cap, cur, rfl, hb, hg, h1, h2, _⟩
  · omega
  · exact ⟨g, cap, rfl, hb, lt_of_block hg, h1, h2⟩

/-- A cell of the row. -/
theorem owns_cell {w : World} {base : Nat} {e : TypeId} {size n g cap : Nat} {xs : List Value} (h : w.ownsRow base e size (.slice (some ⟨g, 0, none⟩) n cap) n xs) {j : Nat} {u : Value} (hu : xs[j]? = some u) : w.cell? ⟨g, j, none⟩ = some u := by
  have := h.cells (g := g) rfl j u hu
  rwa [Addr.add_lit, Nat.zero_add] at this

/-- The same row cut to its first m elements. -/
theorem owns_cut {w : World} {base : Nat} {e : TypeId} {size n : Nat} {ao : Option Addr} {cap : Nat} {xs : List Value} (h : w.ownsRow base e size (.slice ao n cap) n xs) {m : Nat} (hm : m ≤ n) :
    w.ownsRow base e size (.slice ao m cap) m (xs.take (m * size)) := by
  have hl : m * size ≤ n * size := Nat.mul_le_mul_right _ hm
  refine ⟨by rw [List.length_take, h.1]; omega, ?_⟩
  rcases h.2 with ⟨e1, e2⟩ | ⟨g, c, cur, e1, hb, hg, h1, h2, h3, h4⟩
  · cases e1
    obtain rfl : m = 0 := by omega
    exact .inl ⟨rfl, rfl⟩
  · cases e1
    exact .inr ⟨g, cap, cur, rfl, hb, hg, by omega, h2, h3, by rw [← h4, List.take_take, Nat.min_eq_left hl]⟩

/-- N rows of one element type, each with a block of its own. -/
def Fam (w : World) (base : Nat) (e : TypeId) (size N : Nat) (r : Nat → Value) (xs : Nat → List Value) (ln : Nat → Nat) : Prop :=
  (∀ i, i < N → w.ownsRow base e size (r i) (ln i) (xs i)) ∧ ∀ i j, i < N → j < N → i ≠ j → ∀ k, (r i).ownBlock = some k → (r j).ownBlock ≠ some k

section
variable {w w' : World} {base : Nat} {e : TypeId} {size N : Nat} {r : Nat → Value} {xs : Nat → List Value} {ln : Nat → Nat}

theorem Fam.frame (h : Fam w base e size N r xs ln) (hf : ∀ i k, i < N → (r i).ownBlock = some k → w'.heap[k]? = w.heap[k]?) : Fam w' base e size N r xs ln :=
  ⟨fun i hi => owns_frame (h.1 i hi) (fun k hk => hf i k hi hk), h.2⟩

theorem Fam.over (h : Fam w base e size N r xs ln) (hf : ∀ k, base ≤ k → k < w.heap.size → w'.heap[k]? = w.heap[k]?) : Fam w' base e size N r xs ln :=
  h.frame fun i k hi hk => hf k ((h.1 i hi).lt k hk).1 ((h.1 i hi).lt k hk).2

/-- Row i turned, in its own block or a new one. -/
theorem Fam.turn (h : Fam w base e size N r xs ln) {i : Nat} (hi : i < N) {v' : Value} {n' : Nat} {xs' : List Value} (hown : w'.ownsRow base e size v' n' xs')
    (hk : ∀ k, k < w.heap.size → (r i).ownBlock ≠ some k → base ≤ k → w'.heap[k]? = w.heap[k]?) (htell : ∀ k, v'.ownBlock = some k → (r i).ownBlock = some k ∨ w.heap.size ≤ k) :
    Fam w' base e size N (upd r i v') (upd xs i xs') (upd ln i n') := by
  constructor
  · intro j hj
    by_cases e : j = i
    · subst e
      rw [upd_same, upd_same, upd_same]
      exact hown
    · rw [upd_other _ _ e, upd_other _ _ e, upd_other _ _ e]
      exact owns_frame (h.1 j hj) (fun k hk' => hk k ((h.1 j hj).lt k hk').2 (h.2 j i hj hi e k hk') ((h.1 j hj).lt k hk').1)
  · intro j l hj hl hne k h1 h2
    by_cases e : j = i
    · subst e
      rw [upd_same] at h1
      rw [upd_other _ _ (Ne.symm hne)] at h2
      have hl2 := ((h.1 l hl).lt k h2).2
      rcases htell k h1 with h1 | h1
      · exact h.2 j l hj hl hne k h1 h2
      · omega
    · rw [upd_other _ _ e] at h1
      by_cases e' : l = i
      · subst e'
        rw [upd_same] at h2
        have hl2 := ((h.1 j hj).lt k h1).2
        rcases htell k h2 with h2 | h2
        · exact h.2 j l hj hl hne k h1 h2
        · omega
      · rw [upd_other _ _ e'] at h2
        exact h.2 j l hj hl hne k h1 h2

/-- The rows under other numbers. -/
theorem Fam.perm (h : Fam w base e size N r xs ln) (p : Nat → Nat) (hp : ∀ i, i < N → p i < N) (hinj : ∀ i j, i < N → j < N → p i = p j → i = j) : Fam w base e size N (fun i => r (p i)) (fun i => xs (p i)) (fun i => ln (p i)) :=
  ⟨fun i hi => h.1 (p i) (hp i hi), fun i j hi hj hne => h.2 (p i) (p j) (hp i hi) (hp j hj) (fun e => hne (hinj i j hi hj e))⟩
end

end Go.Proofs.Ybulkfeps.lawS7805BWhole
