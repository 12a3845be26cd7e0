/-
  A range over a function whose iterator keeps a count of its own in a cell (it raises it ahead of each call of yield): the law of the walk, after the guide's own law for an iterator that writes nothing.
-/
import Derived.RangeFuncNested
import Derived.RangeFuncBound
import Derived.RangeFuncCalls
import Derived.RangeFuncLeaves
namespace Go.Proofs.YbulkffcqDoor
open Go Go.RowKit
variable {F : Fence} {n : Nat} {P : Program}

/-- How the body of a round may be left. -/
def ownPostN (I : Nat → World → Prop) (Ix : Code → Nat → World → Prop) (k : Nat) (W : World) : Exit → Act → World → Prop
  | .normal, _, W' => KeepsOthers W W' ∧ I k W'
  | .ret, _, W' => KeepsOthers W W' ∧ Ix .ret k W'
  | .exit id, _, W' => KeepsOthers W W' ∧ Ix (.exit id) k W'
  | .goto t, _, W' => KeepsOthers W W' ∧ Ix (.goto t) k W'
  | .panic _, _, _ => False
  | .outgrown, _, _ => False

/-- THE ITERATOR's CONTRACT: N calls of yield at most; T: its own step ahead of the k-th; Fa: what it reads. -/
def Pulls (F : Fence) (n : Nat) (P : Program) (g : Nat) (lb : Array Value) (encs : Nat → Array Value) (N : Nat) (T : Nat → World → World) (Fa : Nat → World → Prop) : Prop :=
  ∀ (l : Nat) (J Jx : Nat → World → Prop) (W : World), (∀ k W1, J k W1 → Fa k W1) →
    (∀ k W1, J k W1 → k < N → YieldAt F (n - 1) P l (encs k) (T k W1) fun e W' => (e = .returned (.bool true) ∧ J (k + 1) W') ∨ (e = .returned (.bool false) ∧ Jx (k + 1) W')) →
    J 0 W → CallsIn F n P g (#[.func (.yield l) #[] #[]] ++ lb) W fun e W' => (∃ v, e = .returned v) ∧ (J N W' ∨ ∃ k, k < N ∧ Jx (k + 1) W')

theorem wpIn_rangeFunc_pulls {g : Operand} {ps : Array Tmp} {assign body : Code} {Q : Exit → Act → World → Prop} {a : Act} {w : World}
    (hro : F.round = none) (h1 : 1 ≤ n) {gf : Nat} {lb : Array Value} (hg : a.eval g = .func (.func gf) #[] lb) (hFg : F.fn gf) (eg : ∀ args w, (callFunc gf args).run P w = .ok (.enter gf args) w)
    {encs : Nat → Array Value} {N : Nat} {T : Nat → World → World} {Fa : Nat → World → Prop} (hseq : Pulls F (n - 1) P gf lb encs N T Fa) (hps : ∀ x, (encs x).size = ps.size)
    (I Ib : Nat → World → Prop) (Ix : Code → Nat → World → Prop) (hI : OwnFrom w.heap.size I) (hIb : OwnFrom w.heap.size Ib) (hIx : ∀ c, OwnFrom w.heap.size (Ix c)) (hIF : ∀ k W, I k W → Fa k W)
    (hT : ∀ k W, I k W → KeepsOthers W (T k W) ∧ Ib k (T k W)) (h0 : I 0 w) (a₁ : Nat → Act)
    (hassign : ∀ (l : Nat) (k : Nat) (W : World) (K : Act → World → Prop), K (a₁ k) W →
      assign.wpIn (F.inRound l) (n - 1 - 1) P (Exit.then K (fun _ _ _ => False)) { tmps := (ps.zip (encs k)).foldl (fun t (p, v) => t.setIfInBounds p v) a.tmps, defers := [] } W)
    (hbody : ∀ (l : Nat) (k : Nat) (W : World), Ib k W → k < N → body.wpIn (F.inRound l) (n - 1 - 1) P (ownPostN I Ix (k + 1) W) (a₁ k) W)
    (hdone : ∀ (D : Nat) (W : World), w.heap.size ≤ D → I N W → W.heap[D]? = some (.deferred (some [])) → Q .normal { a with defers := { target := .collected D, args := #[] } :: a.defers } W)
    (hstop : ∀ (D : Nat) (c : Code) (k : Nat) (W : World), w.heap.size ≤ D → k < N → Ix c (k + 1) W → W.heap[D]? = some (.deferred (some [])) → c.wpIn F n P Q { a with defers := { target := .collected D, args := #[] } :: a.defers } W) :
    (Code.rangeFunc g ps assign body).wpIn F n P Q a w := by
  refine wpIn_rangeFunc ?_
  intro fn hfn
  rw [hro]
  obtain ⟨rec, hrec⟩ : ∃ rec : LoopState → Option Code → Loop, rec = fun st pe => { state := st, pending := pe, fn, tmps := a.tmps, params := ps, assign, body, defers := w.heap.size } := ⟨_, rfl⟩
  obtain ⟨W1, hW1⟩ : ∃ W1, (w.alloc (.deferred (some []))).alloc (.loop (rec .ready none)) = W1 := ⟨_, rfl⟩
  have hL1 : W1.heap[w.heap.size + 1]? = some (.loop (rec .ready none)) := by
    rw [← hW1]; have := World.alloc_heap_new (w.alloc (.deferred (some []))) (.loop (rec .ready none)); rwa [World.size_alloc] at this
  have hK1 : W1.heap[w.heap.size]? = some (.deferred (some [])) := by
    rw [← hW1]; exact (Below.heap_alloc _ _ _ (by simp)).trans (World.alloc_heap_new w _)
  have hI1 : I 0 W1 := by rw [← hW1]; exact hI.alloc _ (hI.alloc _ h0)
  refine ⟨w.heap.size + 1, [{ target := .collected w.heap.size, args := #[] }], W1, { target := .fn (.func gf) lb, args := #[.func (.yield (w.heap.size + 1)) #[] #[]] }, W1, gf,
    #[.func (.yield (w.heap.size + 1)) #[] #[]] ++ lb, W1, ?_, ?_, ?_, ?_, fun _ => h1, ?_⟩
  · rw [← hW1, hrec]; exact run_enterLoop_outer _ _ _ _ _
  · simp only [resolve, hg]
    simp [go_sem]
  · intro f' hf'; simp [Target.leads] at hf'; subst hf'; exact hFg
  · simp [invoke, go_sem, eg]
  · refine (hseq (w.heap.size + 1)
      (fun k W => I k W ∧ W.heap[w.heap.size + 1]? = some (.loop (rec .ready none)) ∧ W.heap[w.heap.size]? = some (.deferred (some [])))
      (fun k W => ∃ c, Ix c k W ∧ W.heap[w.heap.size + 1]? = some (.loop (rec .done (some c))) ∧ W.heap[w.heap.size]? = some (.deferred (some [])))
      W1 (fun k W h => hIF k W h.1) ?_ ⟨hI1, hL1, hK1⟩).mono ?_
    · rintro k W0 ⟨hi0, hl0, hk0⟩ hlen
      obtain ⟨hT0, hi⟩ := hT k W0 hi0
      have hl := hT0.same _ _ hl0 rfl
      have hk := hT0.same _ _ hk0 rfl
      generalize T k W0 = W at hl hk hi ⊢
      have hlt : w.heap.size + 1 < W.heap.size := (Array.getElem?_eq_some_iff.1 hl).1
      have hy := run_yield (P := P) (args := encs k) hl (by rw [hrec]; exact hps k)
      rw [hrec] at hy
      refine ⟨fn, _, assign, body, hy, roundIn_of_wpIn hfn (hassign _ k W _ ⟨_, run_beginRound hl (by rw [hrec]), ?_⟩)⟩
      have hl2 : (W.putObj (w.heap.size + 1) (.loop { rec .ready none with state := .busy })).heap[w.heap.size + 1]? = some (.loop { rec .ready none with state := .busy }) := World.putObj_heap_same hlt
      have hk2 : (W.putObj (w.heap.size + 1) (.loop { rec .ready none with state := .busy })).heap[w.heap.size]? = some (.deferred (some [])) := (World.putObj_heap_other (by omega)).trans hk
      refine wpIn_mono (hbody _ k _ (hIb.putObj _ hi (by omega) hl rfl) hlen) ?_
      have fin : ∀ (jump : Option Code) (W3 : World), KeepsOthers (W.putObj (w.heap.size + 1) (.loop { rec .ready none with state := .busy })) W3 →
          (Instr.endRound (w.heap.size + 1) jump).run P W3 = .ok (.bool jump.isNone) (W3.putObj (w.heap.size + 1) (.loop (rec (if jump.isNone then .ready else .done) jump))) ∧
          W3.heap[w.heap.size + 1]? = some (.loop { rec .ready none with state := .busy }) ∧
          (W3.putObj (w.heap.size + 1) (.loop (rec (if jump.isNone then .ready else .done) jump))).heap[w.heap.size + 1]? = some (.loop (rec (if jump.isNone then .ready else .done) jump)) ∧
          (W3.putObj (w.heap.size + 1) (.loop (rec (if jump.isNone then .ready else .done) jump))).heap[w.heap.size]? = some (.deferred (some [])) := fun jump W3 hk3 => by
        have hl3 := hk3.same _ _ hl2 rfl
        have := run_endRound (P := P) jump hl3
        rw [hrec] at this ⊢
        exact ⟨this, by rw [hrec] at hl3; exact hl3, World.putObj_heap_same (Array.getElem?_eq_some_iff.1 hl3).1, (World.putObj_heap_other (by omega)).trans (hk3.same _ _ hk2 rfl)⟩
      rintro e a3 W3 hp
      cases e with
      | normal =>
        obtain ⟨hk3, hi3⟩ := hp
        obtain ⟨hr, hl3, hl4, hk4⟩ := fin none W3 hk3
        exact ⟨_, _, hr, .inl ⟨rfl, hI.putObj _ hi3 (by omega) hl3 rfl, hl4, hk4⟩⟩
      | ret =>
        obtain ⟨hk3, hi3⟩ := hp
        obtain ⟨hr, hl3, hl4, hk4⟩ := fin (some .ret) W3 hk3
        exact ⟨_, _, hr, .inr ⟨rfl, .ret, (hIx _).putObj _ hi3 (by omega) hl3 rfl, hl4, hk4⟩⟩
      | exit id =>
        obtain ⟨hk3, hi3⟩ := hp
        obtain ⟨hr, hl3, hl4, hk4⟩ := fin (some (.exit id)) W3 hk3
        exact ⟨_, _, hr, .inr ⟨rfl, .exit id, (hIx _).putObj _ hi3 (by omega) hl3 rfl, hl4, hk4⟩⟩
      | goto t =>
        obtain ⟨hk3, hi3⟩ := hp
        obtain ⟨hr, hl3, hl4, hk4⟩ := fin (some (.goto t)) W3 hk3
        exact ⟨_, _, hr, .inr ⟨rfl, .goto t, (hIx _).putObj _ hi3 (by omega) hl3 rfl, hl4, hk4⟩⟩
      | panic ch => exact hp.elim
      | outgrown => exact hp.elim
    · rintro e W2 ⟨⟨v, rfl⟩, (⟨hi, hl, hk⟩ | ⟨k, hkN, c, hi, hl, hk⟩)⟩
      · exact ⟨none, _, by have := run_endLoop (P := P) hl (by rw [hrec]; simp); rw [hrec] at this; exact this, hdone _ _ (Nat.le_refl _) (hI.putObj _ hi (by omega) hl rfl) ((World.putObj_heap_other (by omega)).trans hk)⟩
      · exact ⟨some c, _, by have := run_endLoop (P := P) hl (by rw [hrec]; simp); rw [hrec] at this; exact this, hstop _ c k _ (Nat.le_refl _) hkN ((hIx c).putObj _ hi (by omega) hl rfl) ((World.putObj_heap_other (by omega)).trans hk)⟩
end Go.Proofs.YbulkffcqDoor
