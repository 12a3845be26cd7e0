import Derived.Test.YbulkfepsBgs
namespace Go.Proofs.Ybulkfeps.lawS7805BWhole
open Go.ChangeShapes Go.WideShapes Go.ChangeAt Go.RowKit
set_option linter.unusedVariables false

set_option maxRecDepth 100000 in
set_option maxHeartbeats 4000000 in
theorem add_any (w : World) (base Bg Ba nn : Nat) (S : Nat → Nat) (cutv : Value) (cutL : List (Nat × Nat)) (av : Nat → Value) (L : Nat → List (Nat × Int)) (c : Nat → Nat → Int) (a b : Nat) (d : Int)
    (h : GS w base Bg Ba nn S cutv cutL av L c) (ha : a < nn) (hb : b < nn) (hnn : nn ≤ 40) (hd : -2 ≤ d ∧ d ≤ 2) (hc : ∀ x y, -50000 ≤ c x y ∧ c x y ≤ 50000) (hcut : cutL.length ≤ 5000) :
    Calls Yba.prog 8 #[.pointer (some ⟨Bg, 0, none⟩), .int .i64 (a : Int), .int .i64 (b : Int), .int .i64 d] w (AddPost w base Bg Ba nn S (cutL.length + 1) (addC c a b d)) := by
  have HG : Hid (GS w base Bg Ba nn S cutv cutL av L c) := h
  have HC : Hid (∀ x y, -50000 ≤ c x y ∧ c x y ≤ 50000) := hc
  have hB : -60000 ≤ c a b + d ∧ c a b + d ≤ 60000 := by have := hc a b; omega
  clear h hc
  have P1 := put_any w base Bg Ba nn _ av (L a) (c a) a b d HG.out.g rfl HG.out.adj (HG.out.fam.1 a ha) (HG.out.rep a ha) ha hb hnn hd (by have := HC.out a b; omega) HG.out.sz
  have HP1 : Hid (Calls Yba.prog 15 #[.pointer (some ⟨Bg, 0, none⟩), .int .i64 (a : Int), .int .i64 (b : Int), .int .i64 d] w (PutPost w base Ba nn av (c a) a b d)) := P1
  clear P1
  have HD : Hid (-2 ≤ d ∧ d ≤ 2) := hd
  clear hd
  generalize hn : c a b + d = n at *
  have HCE : Hid (a = b → addC c a b d = putC c a b d) := fun e => if_pos e
  have HCN : Hid (a ≠ b → addC c a b d = putC (putC c a b d) b a d) := fun e => if_neg e
  by_cases hab : a = b
  · have HAB : Hid (a = b) := hab
    have hne : ((a : Int) != (b : Int)) = false := by subst hab; simp
    clear hab
    by_cases hz : n = 0
    · have hz' : (n == 0) = true := by simpa using hz
      clear hz
      go_enter Yba.func8, Yba.ntmps8
      go_wp2_with (first | (go_at_call 15; refine HP1.out.mono ?_; intro e w1 hp; obtain ⟨he, hk1, av1, L1, hg1⟩ := HG.out.put ha hp; rw [hn] at he; subst he; clear hp; have HK1 : Hid (TK base w w1) := hk1; have HG1 : Hid (GS w1 base Bg Ba nn S cutv cutL av1 L1 (putC c a b d)) := hg1; clear hk1 hg1; obtain ⟨g', cap', w3, hrun, e5, e6, hg3, hk3⟩ := HG1.out.pushCut a b (by omega); have c1 : w1.cell? ⟨Bg, 1, none⟩ = some cutv := HG1.out.g.cell (by omega); have HR : Hid _ := hrun; have HG3 : Hid (GS (w3.setCell ⟨Bg, 1, none⟩ (.slice (some ⟨g', 0, none⟩) (cutL.length + 1) cap')) base Bg Ba nn S (.slice (some ⟨g', 0, none⟩) (cutL.length + 1) cap') (cutL ++ [(a, b)]) _ _ _) := hg3; have HK3 : Hid (TK base w1 (w3.setCell ⟨Bg, 1, none⟩ (.slice (some ⟨g', 0, none⟩) (cutL.length + 1) cap'))) := hk3; clear hrun hg3 hk3) | (at_builtin; refine wpList_append_eq rfl (.tmp 28) (.tmp 32) 53 53 ?_ ?_ _ _ _ _ ?_ ?_ HR.out ?_; exact rfl; exact rfl; exact rfl; exact rfl))
      go_end0
      exact ⟨rfl, HK1.out.trans HK3.out, _, _, _, _, HCE.out HAB.out ▸ HG3.out, by simp⟩
    · have hz' : (n == 0) = false := by simpa using hz
      clear hz
      go_enter Yba.func8, Yba.ntmps8
      go_wp2_with (go_at_call 15; refine HP1.out.mono ?_; intro e w1 hp; obtain ⟨he, hk1, av1, L1, hg1⟩ := HG.out.put ha hp; rw [hn] at he; subst he; clear hp; have HK1 : Hid (TK base w w1) := hk1; have HG1 : Hid (GS w1 base Bg Ba nn S cutv cutL av1 L1 (putC c a b d)) := hg1; clear hk1 hg1)
      go_end0
      exact ⟨rfl, HK1.out, _, _, _, _, HCE.out HAB.out ▸ HG1.out, by omega⟩
  · have HAB : Hid (a ≠ b) := hab
    have hne : ((a : Int) != (b : Int)) = true := by simp; omega
    have HCB : Hid (-100000 ≤ putC c a b d b a ∧ putC c a b d b a ≤ 100000) := by
      have h1 : putC c a b d b = c b := upd_other _ _ (Ne.symm hab)
      have h2 := HC.out b a
      rw [h1]
      exact (by omega : -100000 ≤ c b a ∧ c b a ≤ 100000)
    clear hab
    by_cases hz : n = 0
    · have hz' : (n == 0) = true := by simpa using hz
      clear hz
      go_enter Yba.func8, Yba.ntmps8
      go_wp2_with (first | (go_at_call 15; refine (put_any w1 base Bg Ba nn _ av1 (L1 b) (putC c a b d b) b a d HG1.out.g rfl HG1.out.adj (HG1.out.fam.1 b hb) (HG1.out.rep b hb) hb ha hnn HD.out HCB.out HG1.out.sz).mono ?_; intro e w2 hp; obtain ⟨he, hk2, av2, L2, hg2⟩ := HG1.out.put hb hp; subst he; clear hp; have HK2 : Hid (TK base w1 w2) := hk2; have HG2 : Hid (GS w2 base Bg Ba nn S cutv cutL av2 L2 (putC (putC c a b d) b a d)) := hg2; clear hk2 hg2; obtain ⟨g', cap', w3, hrun, e5, e6, hg3, hk3⟩ := HG2.out.pushCut a b (by omega); have c1 : w2.cell? ⟨Bg, 1, none⟩ = some cutv := HG2.out.g.cell (by omega); have HR : Hid _ := hrun; have HG3 : Hid (GS (w3.setCell ⟨Bg, 1, none⟩ (.slice (some ⟨g', 0, none⟩) (cutL.length + 1) cap')) base Bg Ba nn S (.slice (some ⟨g', 0, none⟩) (cutL.length + 1) cap') (cutL ++ [(a, b)]) _ _ _) := hg3; have HK3 : Hid (TK base w2 (w3.setCell ⟨Bg, 1, none⟩ (.slice (some ⟨g', 0, none⟩) (cutL.length + 1) cap'))) := hk3; clear hrun hg3 hk3) | (go_at_call 15; refine HP1.out.mono ?_; intro e w1 hp; obtain ⟨he, hk1, av1, L1, hg1⟩ := HG.out.put ha hp; rw [hn] at he; subst he; clear hp; have HK1 : Hid (TK base w w1) := hk1; have HG1 : Hid (GS w1 base Bg Ba nn S cutv cutL av1 L1 (putC c a b d)) := hg1; clear hk1 hg1) | (at_builtin; refine wpList_append_eq rfl (.tmp 28) (.tmp 32) 53 53 ?_ ?_ _ _ _ _ ?_ ?_ HR.out ?_; exact rfl; exact rfl; exact rfl; exact rfl))
      go_end0
      exact ⟨rfl, (HK1.out.trans HK2.out).trans HK3.out, _, _, _, _, HCN.out HAB.out ▸ HG3.out, by simp⟩
    · have hz' : (n == 0) = false := by simpa using hz
      clear hz
      go_enter Yba.func8, Yba.ntmps8
      go_wp2_with (first | (go_at_call 15; refine (put_any w1 base Bg Ba nn _ av1 (L1 b) (putC c a b d b) b a d HG1.out.g rfl HG1.out.adj (HG1.out.fam.1 b hb) (HG1.out.rep b hb) hb ha hnn HD.out HCB.out HG1.out.sz).mono ?_; intro e w2 hp; obtain ⟨he, hk2, av2, L2, hg2⟩ := HG1.out.put hb hp; subst he; clear hp; have HK2 : Hid (TK base w1 w2) := hk2; have HG2 : Hid (GS w2 base Bg Ba nn S cutv cutL av2 L2 (putC (putC c a b d) b a d)) := hg2; clear hk2 hg2) | (go_at_call 15; refine HP1.out.mono ?_; intro e w1 hp; obtain ⟨he, hk1, av1, L1, hg1⟩ := HG.out.put ha hp; rw [hn] at he; subst he; clear hp; have HK1 : Hid (TK base w w1) := hk1; have HG1 : Hid (GS w1 base Bg Ba nn S cutv cutL av1 L1 (putC c a b d)) := hg1; clear hk1 hg1))
      go_end0
      exact ⟨rfl, HK1.out.trans HK2.out, _, _, _, _, HCN.out HAB.out ▸ HG2.out, by omega⟩
end Go.Proofs.Ybulkfeps.lawS7805BWhole
