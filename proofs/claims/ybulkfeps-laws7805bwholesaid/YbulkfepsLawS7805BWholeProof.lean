/-
  The proof of Rows.LawS7805BWholeSaid: the row's frame (typed after the shell of the seat's other row), its walk filled.
-/
import Derived.Test.YbulkfepsRows
import Derived.Test.YbulkfepsBmain
import Derived.Test.YbulkfepsBearly
import Derived.Test.YbulkfepsBopen
import Derived.WalkKit
import Derived.ProofKit
import Derived.OpenShut
import Derived.ShutString
import Derived.ChangeOld
import Derived.Below
namespace Go.Proofs.Ybulkfeps.lawS7805BWhole
open Go.ChangeShapes Go.WideShapes Go.ChangeAt Go.RowKit
set_option linter.unusedVariables false

theorem own : ownKnob Yba.prog.godebug = none := by kernel_rfl
theorem laidOut : laidOutB Yba.prog = true := by kernel_rfl

/-! ### The walk -/
theorem walk (w : World) (n a b : Int) (ao ab aq : Option Addr) (l1 c1 l2 c2 l3 c3 : Nat) (ops : List (Nat × Nat × Int)) (bs : List Bool) (qs : List (Nat × Nat))
    (wn : (Lit.int .u8 n).wf = true) (wa : (Lit.int .u8 a).wf = true) (wb : (Lit.int .u8 b).wf = true) (h1 : ops.length = l1) (h3 : qs.length = l3)
    (hO : OpsIn w w.heap.size (.slice ao l1 c1) ops) (hB : BoolRow w w.heap.size (.slice ab l2 c2) bs) (hQ : QsIn w w.heap.size (.slice aq l3 c3) qs) :
    Calls Yba.prog 4 #[.int .u8 n, .slice ao l1 c1, .slice ab l2 c2, .int .u8 a, .int .u8 b, .slice aq l3 c3] w fun e w' => e = .returned (.bool true) ∧ Below w.heap.size w w' := by
  by_cases hl : 4096 < l1
  · exact early_ops w n a b ao ab aq l1 c1 l2 c2 l3 c3 hl
  by_cases hq : 4096 < l3
  · exact early_qs w n a b ao ab aq l1 c1 l2 c2 l3 c3 (by omega) hq
  have kn := bounds_u8 wn
  have ka := bounds_u8 wa
  have kb := bounds_u8 wb
  obtain ⟨n', rfl⟩ : ∃ m : Nat, n = (m : Int) := ⟨n.toNat, (Int.toNat_of_nonneg kn.1).symm⟩
  obtain ⟨a', rfl⟩ : ∃ m : Nat, a = (m : Int) := ⟨a.toNat, (Int.toNat_of_nonneg ka.1).symm⟩
  obtain ⟨b', rfl⟩ : ∃ m : Nat, b = (m : Int) := ⟨b.toNat, (Int.toNat_of_nonneg kb.1).symm⟩
  exact main_any w n' a' b' _ _ _ ops bs qs (by omega) (by omega) (by omega) hO hB hQ (by omega) (by omega)

/-! ### THE ROW's STEP -/
set_option maxRecDepth 100000 in
theorem lifted (os : Os) (started : os.Started) (H : Type) (enc : TypeId × Value → H) :
    ReturnsInHanded {} Yba.checked os 4 .any (Rows.lawS7805BWholeSpec.pre6 enc Yba.prog Yba.f4 Rows.lawS7805BWholeRow.domain false) (Rows.lawS7805BWholeSpec.post enc Yba.prog Yba.f4 false true false false) := by
  refine returnsInHanded_of_change (C := Yba.checked) own started (by kernel_rfl) Yba.func4
    (ChangeSpec.witness6 (enc := enc) (C := Yba.checked) false ⟨#[], #[.int .u8 0, .slice none 0 0, .slice none 0 0, .int .u8 0, .int .u8 0, .slice none 0 0], []⟩ 8 (by kernel_rfl) (by kernel_rfl) (by kernel_rfl) (by kernel_rfl)) ?_
  intro W base args ds gs before hval0 hW hcnd _
  have hval : ∀ (j : Nat) t v, Yba.f4.params[j]? = some t → args[j]? = some v → Value.okWide Yba.prog W .any base t v := hval0
  have hW' := hW
  obtain ⟨p, q, hA0, hV, rfl, hfz, hnd⟩ := hW
  have hA : DataW.TrodAll enc Yba.prog W 0 (fun _ => true) true Yba.f4.params.toList args.toList ds p := hA0
  rw [Yba.params4] at hA hval
  obtain ⟨v0, vs0, d0, ds0, p0, q0, hargs, rfl, rfl, h0, r0⟩ := trodAll_cons hA
  obtain ⟨v1, vs1, d1, ds1, p1, q1, rfl, rfl, rfl, h1, r1⟩ := trodAll_cons r0
  obtain ⟨v2, vs2, d2, ds2, p2, q2, rfl, rfl, rfl, h2, r2⟩ := trodAll_cons r1
  obtain ⟨v3, vs3, d3, ds3, p3, q3, rfl, rfl, rfl, h3, r3⟩ := trodAll_cons r2
  obtain ⟨v4, vs4, d4, ds4, p4, q4, rfl, rfl, rfl, h4, r4⟩ := trodAll_cons r3
  obtain ⟨v5, vs5, d5, ds5, p5, q5, rfl, rfl, rfl, h5, r5⟩ := trodAll_cons r4
  obtain ⟨rfl, rfl, rfl⟩ := trodAll_nil r5
  obtain rfl : args = #[v0, v1, v2, v3, v4, v5] := by cases args; simp_all
  obtain ⟨rfl, rfl⟩ := trodVars_none hV
  obtain ⟨a0, rfl, rfl, rfl, w0⟩ := open_int Yba.underlying5 (hval 0 5 v0 rfl rfl) h0
  obtain ⟨a1, len1, cap1, rfl⟩ := okWide_slice Yba.underlying42 (hval 1 42 v1 rfl rfl)
  obtain ⟨a2, len2, cap2, rfl⟩ := okWide_slice Yba.underlying43 (hval 2 43 v2 rfl rfl)
  obtain ⟨a3, rfl, rfl, rfl, w3⟩ := open_int Yba.underlying5 (hval 3 5 v3 rfl rfl) h3
  obtain ⟨a4, rfl, rfl, rfl, w4⟩ := open_int Yba.underlying5 (hval 4 5 v4 rfl rfl) h4
  obtain ⟨a5, len5, cap5, rfl⟩ := okWide_slice Yba.underlying44 (hval 5 44 v5 rfl rfl)
  have k1 := h1
  have lt1 : ∀ x ∈ p1, x.block < W.heap.size := by obtain ⟨m, hm⟩ := k1; exact DataW.trod_lt m _ _ _ hm
  have k2 := h2
  have lt2 : ∀ x ∈ p2, x.block < W.heap.size := by obtain ⟨m, hm⟩ := k2; exact DataW.trod_lt m _ _ _ hm
  have k5 := h5
  have lt5 : ∀ x ∈ p5, x.block < W.heap.size := by obtain ⟨m, hm⟩ := k5; exact DataW.trod_lt m _ _ _ hm
  obtain ⟨ops, hl1, hO⟩ : ∃ ops, ops.length = len1 ∧ OpsIn W W.heap.size (.slice a1 len1 cap1) ops := by
    obtain ⟨fuel, hf⟩ := h1
    exact open_ops Yba.underlying42 Yba.underlying51 (by kernel_rfl) rfl rfl rfl (by kernel_rfl) (by kernel_rfl) (by kernel_rfl) Yba.underlying5 Yba.underlying5 Yba.underlying49 hf
  obtain ⟨bs, hB⟩ : ∃ bs, BoolRow W W.heap.size (.slice a2 len2 cap2) bs := by
    obtain ⟨fuel, hf⟩ := h2
    exact open_bs Yba.underlying43 Yba.underlying4 (by kernel_rfl) hf
  obtain ⟨qs, hl5, hQ⟩ : ∃ qs, qs.length = len5 ∧ QsIn W W.heap.size (.slice a5 len5 cap5) qs := by
    obtain ⟨fuel, hf⟩ := h5
    exact open_qs Yba.underlying44 Yba.underlying59 (by kernel_rfl) rfl rfl (by kernel_rfl) (by kernel_rfl) Yba.underlying5 Yba.underlying5 hf
  clear hA0 hval0
  refine (walk W a0 a3 a4 a1 a2 a5 len1 cap1 len2 cap2 len5 cap5 ops bs qs w0 w3 w4 hl1 hl5 hO hB hQ).mono fun e W' ⟨he, bel⟩ => ?_
  subst he
  exact ⟨_, rfl, _, _, _, [], _, [], hW', trodAll_mk1 (shut_bool Yba.underlying4 _), (trodAll_cons_mk (shut_int Yba.underlying5 w0) (trodAll_cons_mk (Below.trod laidOut (by kernel_rfl) (of_decide_eq_true (by kernel_rfl)) k1 bel lt1) (trodAll_cons_mk (Below.trod laidOut (by kernel_rfl) (of_decide_eq_true (by kernel_rfl)) k2 bel lt2)
    (trodAll_cons_mk (shut_int Yba.underlying5 w3) (trodAll_cons_mk (shut_int Yba.underlying5 w4) (trodAll_cons_mk (Below.trod laidOut (by kernel_rfl) (of_decide_eq_true (by kernel_rfl)) k5 bel lt5) trodAll_mk0)))))), rfl, bel.frame _, fun h => by cases h⟩

theorem over : Rows.lawS7805BWholeRow.holds Yba.pinned (OpenSpec.ofChange Rows.lawS7805BWholeSpec) :=
  OpenClaim.holds_of_wide 4 Yba.f4 rfl rfl rfl rfl rfl rfl rfl ⟨rfl, rfl, rfl, rfl, rfl⟩ rfl rfl rfl rfl rfl (by kernel_rfl) Yba.func4 (by kernel_rfl)
    (of_decide_eq_true (by kernel_rfl)) (by unfold Func.isWrapper; first | (rw [if_pos (by decide +kernel)]; kernel_rfl) | (rw [if_neg (by decide +kernel)]; exact ⟨rfl, rfl⟩))
    (fun os started H enc _ => lifted os started H enc)

/-- ████ THE STATEMENT ████ -/
theorem proved : Rows.LawS7805BWholeSaid := over
#print axioms proved
end Go.Proofs.Ybulkfeps.lawS7805BWhole
