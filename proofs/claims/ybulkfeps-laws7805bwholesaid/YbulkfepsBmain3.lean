import Derived.Test.YbulkfepsBmain2
namespace Go.Proofs.Ybulkfeps.lawS7805BWhole
open Go.ChangeShapes Go.WideShapes Go.ChangeAt Go.RowKit
set_option linter.unusedVariables false

section
variable {w0 : World} {base Bg Ba Bc nn : Nat} {cutv : Value} {S : Nat → Nat} {w w' : World} {s s' : Int} {r r' : Nat → Value} {ys ys' : Nat → List Nat} {sv sv' : Nat → Nat → Int}

theorem PM.self (h : PM w0 base Bg Ba Bc nn cutv S w s r ys sv) : PM w base Bg Ba Bc nn cutv S w s r ys sv := ⟨h.g, h.sn, h.fam, h.box, Keep.refl _ _ _, h.sz, h.lg, h.lc, h.ls, h.ns⟩
theorem PM.chain (h : PM w0 base Bg Ba Bc nn cutv S w s r ys sv) (h' : PM w base Bg Ba Bc nn cutv S w' s' r' ys' sv') : PM w0 base Bg Ba Bc nn cutv S w' s' r' ys' sv' :=
  ⟨h'.g, h'.sn, h'.fam, h'.box, h.kp.trans h'.kp, h'.sz, h'.lg, h'.lc, h'.ls, h'.ns⟩
end

/-- What a search hands back, whether its ends are one or two. -/
def PathPost2 (w : World) (base Bg Ba Bc nn : Nat) (cutv : Value) (S : Nat → Nat) (s : Int) (c : Nat → Nat → Int) (bs : List Bool) (a b : Nat) (e : Ending) (w' : World) : Prop :=
  ∃ s', s ≤ s' ∧ s' ≤ s + 1 ∧ PathPost w base Bg Ba Bc nn cutv S s' c bs a b e w'

theorem path_both (w : World) (base0 base Bg Ba Bc Bk nn : Nat) (cutv bv : Value) (S : Nat → Nat) (s : Int) (r : Nat → Value) (ys : Nat → List Nat) (sv : Nat → Nat → Int) (av : Nat → Value) (L : Nat → List (Nat × Int)) (c : Nat → Nat → Int) (bs : List Bool) (a b : Nat)
    (hP : PM w base Bg Ba Bc nn cutv S w s r ys sv) (hA : AdjIn w base Ba nn av L c) (hk : Blk w Bk 43 1 (fun _ => bv)) (hkb : Bk < base) (hbr : BoolRow w base0 bv bs) (hb0 : base0 ≤ base) (h0 : ∀ k, PW Bg Bc S k → base0 ≤ k) (hnn : nn ≤ 40) (ha : a < nn) (hb : b < nn)
    (hs : 0 ≤ s ∧ s ≤ 100000) (hsv : ∀ t x, t < 2 → x < nn → sv t x ≤ s) (hys : ys 4 = []) (hsym : ∀ x y, c x y = c y x) :
    Calls Yba.prog 11 #[.pointer (some ⟨Bg, 0, none⟩), .int .i64 (a : Int), .int .i64 (b : Int), .func (.func 9) #[] #[.pointer (some ⟨Bc, 0, none⟩), .pointer (some ⟨Bk, 0, none⟩)]] w (PathPost2 w base Bg Ba Bc nn cutv S s c bs a b) := by
  by_cases hab : a = b
  · subst hab
    exact (path_same w base Bg Ba Bc Bk nn cutv S s r ys sv c bs a hP hsv hys).mono (fun e w' h => ⟨s, Int.le_refl _, by omega, h⟩)
  · exact (path_any w base0 base Bg Ba Bc Bk nn cutv bv S s r ys sv av L c bs a b hP hA hk hkb hbr hb0 h0 hnn ha hb hs hsv hys hsym hab).mono (fun e w' h => ⟨s + 1, by omega, Int.le_refl _, h⟩)

/-- What 'zzs7805breach' hands back. -/
def ReachPost (w : World) (nn : Nat) (c : Nat → Nat → Int) (bs : List Bool) (a b : Nat) (e : Ending) (w' : World) : Prop := ∃ r : Bool, e = .returned (.bool r) ∧ (r = true ↔ Conn (adjOf nn c) (okOf bs) a b) ∧ Below w.heap.size w w'

/-- The marks stand through the searches. -/
theorem OS.marks {w : World} {base0 Bk Bg Ba C nn : Nat} {bv bv' : Value} {S : Nat → Nat} {wr : World} {cutv : Value} {cutL : List (Nat × Nat)} {av : Nat → Value} {L : Nat → List (Nat × Int)} {c : Nat → Nat → Int} {w' : World} {s : Int} {r : Nat → Value} {ys : Nat → List Nat} {sv : Nat → Nat → Int} {bs : List Bool}
    (h : OS w base0 Bk Bg Ba C nn bv S wr cutv cutL av L c c) (hb : BoolRow w w.heap.size bv' bs) (p : PM (wr.alloc (.cells #[nilv] 48)) (wr.heap.size + 1) Bg Ba wr.heap.size nn cutv S w' s r ys sv) : BoolRow w' w.heap.size bv' bs := by
  refine hb.keep fun k hk => ?_
  have h1 := h.low.size
  rw [p.kp.block (by omega) (fun q => by have := h.pw k q; omega), Below.heap_alloc _ _ _ (by omega)]
  exact h.low.block k hk

theorem OS.low2 {w : World} {base0 Bk Bg Ba C nn : Nat} {bv : Value} {S : Nat → Nat} {wr : World} {cutv : Value} {cutL : List (Nat × Nat)} {av : Nat → Value} {L : Nat → List (Nat × Int)} {c : Nat → Nat → Int} {w' : World} {s : Int} {r : Nat → Value} {ys : Nat → List Nat} {sv : Nat → Nat → Int}
    (h : OS w base0 Bk Bg Ba C nn bv S wr cutv cutL av L c c) (p : PM (wr.alloc (.cells #[nilv] 48)) (wr.heap.size + 1) Bg Ba wr.heap.size nn cutv S w' s r ys sv) : Below w.heap.size w w' := by
  have h1 := h.low.size
  exact (h.low.alloc h1 (.cells #[nilv] 48)).trans (p.kp.below (by omega) (fun k hk q => by have := h.pw k q; omega))

theorem OS.boxed {w : World} {base0 Bk Bg Ba C nn : Nat} {bv : Value} {S : Nat → Nat} {wr : World} {cutv : Value} {cutL : List (Nat × Nat)} {av : Nat → Value} {L : Nat → List (Nat × Int)} {c : Nat → Nat → Int} {w' : World} {s : Int} {r : Nat → Value} {ys : Nat → List Nat} {sv : Nat → Nat → Int}
    (h : OS w base0 Bk Bg Ba C nn bv S wr cutv cutL av L c c) (p : PM (wr.alloc (.cells #[nilv] 48)) (wr.heap.size + 1) Bg Ba wr.heap.size nn cutv S w' s r ys sv) : Blk w' Bk 43 1 (fun _ => bv) := by
  have h1 := h.bk.alloc (.cells #[nilv] 48)
  have h2 := h.bk.lt
  exact h1.keep p.kp (by omega) ((PM.start h).not_pw h1 (by decide) (by decide) (by decide))
end Go.Proofs.Ybulkfeps.lawS7805BWhole
