/-
  The proof of Rows.LawS7829CWholeCardSaid: the row, then the tied card.
-/
import Derived.Test.YbulkffcqDoorRows
import Derived.Test.YbulkffcqDoorTie
import Derived.Test.YbulkffcqDoorCards
import Derived.Test.YbulkffcqDoorWalk
import Derived.Test.YbulkffcqDoorLaid
import Derived.ProofKit
import Derived.OpenShut
import Derived.ShutString
import Derived.ChangeOld
import Derived.Below
import Derived.Stop.Joined
import Derived.LaidMore
import Derived.SevenTiedAt
namespace Go.Proofs.YbulkffcqDoor
open Go.ChangeShapes Go.WideShapes Go.ChangeAt Go.RowKit
set_option linter.unusedVariables false

theorem own : ownKnob Ybad.prog.godebug = none := by kernel_rfl
theorem laidOut : laidOutB Ybad.prog = true := by kernel_rfl

/-- A slice of bytes that came in, as the walk is told of it. -/
theorem bytes_in {H : Type} {enc : TypeId × Value → H} {W : World} {fuel : Nat} {a : Option Addr} {len cap : Nat} {d : DataW H} {p : List MemPlace}
    (hf : DataW.trod enc Ybad.prog W 0 (fun _ => true) true fuel 22 (Value.slice a len cap).cells.toList = some (d, p)) :
    ∃ (b off : Nat) (sp : Option Nat) (zs : List Int), (a = none ∧ len = 0 ∧ cap = 0 ∨ a = some ⟨b, off, sp⟩) ∧ (0 < len → sp = none) ∧ len ≤ 9223372036854775807 ∧ (∀ j, nat8 zs j ≤ 255) ∧ ∀ k, k < len → W.cell? ⟨b, off + k, none⟩ = some (.int .u8 (nat8 zs k : Int)) := by
  rcases open_ints Ybad.underlying22 Ybad.underlying5 (by kernel_rfl) hf with ⟨hcs, _⟩ | ⟨x, l, c, zs, hcs, _, hl, hm, hz, _, hcell, hwz⟩
  · simp [Value.cells] at hcs
    obtain ⟨rfl, rfl, rfl⟩ := hcs
    exact ⟨0, 0, none, [], .inl ⟨rfl, rfl, rfl⟩, fun _ => rfl, by omega, fun j => by simp [nat8], fun k hk => absurd hk (Nat.not_lt_zero _)⟩
  · simp [Value.cells] at hcs
    obtain ⟨rfl, rfl, rfl⟩ := hcs
    obtain ⟨b, off, sp⟩ := x
    have hz' : zs.length = cap := by simpa using hz
    unfold maxLen at hm
    have hb : ∀ j, 0 ≤ zs.getD j 0 ∧ zs.getD j 0 ≤ 255 := fun j => by
      by_cases hj : j < zs.length
      · have : zs.getD j 0 ∈ zs := by simp [List.getD, hj]
        exact bounds_u8 (hwz _ this)
      · simp [List.getD, show zs[j]? = none from List.getElem?_eq_none (by omega)]
    refine ⟨b, off, sp, zs, .inr rfl, fun h => by simpa [Addr.add] using World.cell?_spot (hcell 0 (by omega)), by omega, fun j => by have := hb j; unfold nat8; omega, fun k hk => ?_⟩
    have hsp : sp = none := by simpa [Addr.add] using World.cell?_spot (hcell 0 (by omega))
    subst hsp
    have := hcell k (by omega)
    rw [Addr.add_mid] at this
    rw [this]
    have h0 := (hb k).1
    unfold nat8
    rw [Int.toNat_of_nonneg h0]

theorem walk {W : World} {v0 v1 : Value} {H : Type} {enc : TypeId × Value → H} {f0 f1 : Nat} {a0 a1 : Option Addr} {l0 c0 l1 c1 : Nat} {d0 d1 : DataW H} {p0 p1 : List MemPlace} (hG : Glob W)
    (h0 : DataW.trod enc Ybad.prog W 0 (fun _ => true) true f0 22 (Value.slice a0 l0 c0).cells.toList = some (d0, p0)) (h1 : DataW.trod enc Ybad.prog W 0 (fun _ => true) true f1 22 (Value.slice a1 l1 c1).cells.toList = some (d1, p1))
    (o m s : Int) (wo : (Lit.int .u64 o).wf = true) (wm : (Lit.int .u8 m).wf = true) (ws : (Lit.int .u64 s).wf = true) :
    Calls Ybad.prog 3 #[.slice a0 l0 c0, .slice a1 l1 c1, .int .u64 o, .int .u8 m, .int .u64 s] W fun e w' => e = .returned (.bool true) ∧ Below W.heap.size W w' := by
  obtain ⟨b, off, sp, zs, ha, hsp, hl, hzb, hc⟩ := bytes_in h0
  obtain ⟨b2, off2, sp2, bs, ha2, hsp2, hl2, hbb, hc2⟩ := bytes_in h1
  by_cases hbig : 65536 < l0
  · exact walk_big a0 l0 c0 _ o s m hbig hl W
  have bo := bounds_u64 wo
  have bm := bounds_u8 wm
  have bs' := bounds_u64 ws
  obtain ⟨O, rfl⟩ := Int.eq_ofNat_of_zero_le bo.1
  obtain ⟨M, rfl⟩ := Int.eq_ofNat_of_zero_le bm.1
  obtain ⟨S, rfl⟩ := Int.eq_ofNat_of_zero_le bs'.1
  refine walk_c a0 a1 b off l0 c0 b2 off2 l1 c1 (fun h => ?_) (fun h => ?_) zs bs O S M W (by omega) hc hc2 hl2 (O % (l0 + 1)) (S % (l0 + 2)) ?_ ?_ ?_ ?_ (by have := bm.2; omega) hG hzb hbb
  · rcases ha with ⟨_, h', _⟩ | rfl
    · omega
    · rw [hsp h]
  · rcases ha2 with ⟨_, h', _⟩ | rfl
    · omega
    · rw [hsp2 h]
  · push_cast; rfl
  · have := Nat.mod_lt O (show 0 < l0 + 1 by omega); omega
  · push_cast; rfl
  · have := Nat.mod_lt S (show 0 < l0 + 2 by omega); omega

set_option maxRecDepth 100000 in
theorem lifted (os : Os) (started : os.Started) (H : Type) (enc : TypeId × Value → H) :
    ReturnsInHanded {} Ybad.checked os 3 .any (fun w args => (Rows.lawS7829CWholeSpec.pre enc Ybad.prog Ybad.f3 [] false w args ∧ laidMetH Ybad.prog Rows.lawS7829CWholeRow.laid w) ∧ sizedMet enc Ybad.prog Ybad.f3 (OpenSpec.ofChange Rows.lawS7829CWholeSpec) false w args)
      (Rows.lawS7829CWholeSpec.post enc Ybad.prog Ybad.f3 false true false false) := by
  refine returnsInHanded_of_change_and (C := Ybad.checked) (X := fun w _ => laidMetH Ybad.prog Rows.lawS7829CWholeRow.laid w) (fun _ _ _ hh h => h.of_heap hh) own started (by kernel_rfl) Ybad.func3
    (ChangeSpec.witness_shaped (enc := enc) (C := Ybad.checked) (os := os) (X := fun w _ => laidMetH Ybad.prog Rows.lawS7829CWholeRow.laid w) false (World.doorLaid Ybad.prog 400 os) #[.slice none 0 0, .slice none 0 0, .int .u64 0, .int .u8 0, .int .u64 0] 8 rfl (World.shaped_of_RefB (by kernel_rfl) (by kernel_rfl)) (by kernel_rfl) (by kernel_rfl) (by kernel_rfl) (door_met os _)) ?_
  intro W base args ds gs before hval0 hW _ _ hL _
  have hval : ∀ (j : Nat) t v, Ybad.f3.params[j]? = some t → args[j]? = some v → Value.okWide Ybad.prog W .any base t v := hval0
  have hW' := hW
  obtain ⟨p, q, hA0, hV0, rfl, hfz, hnd⟩ := hW
  have hA : DataW.TrodAll enc Ybad.prog W 0 (fun _ => true) true Ybad.f3.params.toList args.toList ds p := hA0
  have hV : DataW.TrodVars enc Ybad.prog W (fun _ => true) [tabName] gs q := hV0
  rw [Ybad.params3] at hA hval
  obtain ⟨v0, vs0, d0, ds0, p0, q0, hargs, rfl, rfl, h0, r0⟩ := trodAll_cons hA
  obtain ⟨v1, vs1, d1, ds1, p1, q1, rfl, rfl, rfl, h1, r1⟩ := trodAll_cons r0
  obtain ⟨v2, vs2, d2, ds2, p2, q2, rfl, rfl, rfl, h2, r2⟩ := trodAll_cons r1
  obtain ⟨v3, vs3, d3, ds3, p3, q3, rfl, rfl, rfl, h3, r3⟩ := trodAll_cons r2
  obtain ⟨v4, vs4, d4, ds4, p4, q4, rfl, rfl, rfl, h4, r4⟩ := trodAll_cons r3
  obtain ⟨rfl, rfl, rfl⟩ := trodAll_nil r4
  obtain rfl : args = #[v0, v1, v2, v3, v4] := by cases args; simp_all
  obtain ⟨g, t, cs, fuel, d, p', rfl, hg, ht, hvar, hd, rfl⟩ := trodVars_one hV
  obtain rfl := Option.some.inj (gTab.symm.trans hg)
  obtain rfl := Option.some.inj (tTab.symm.trans ht)
  obtain rfl : cs = tabCells := Option.some.inj (hvar.symm.trans (var_of_laid hL))
  obtain ⟨rfl, rfl⟩ := DataW.Trod.unique (v := .agg tabCells) ⟨fuel, hd⟩ ⟨4, reads_tab enc W _⟩
  obtain ⟨a0, len0, cap0, rfl⟩ := okWide_slice Ybad.underlying22 (hval 0 22 v0 rfl rfl)
  obtain ⟨a1, len1, cap1, rfl⟩ := okWide_slice Ybad.underlying22 (hval 1 22 v1 rfl rfl)
  have k0 := h0
  have k1 := h1
  have lt0 : ∀ x ∈ p0, x.block < W.heap.size := by obtain ⟨m, hm⟩ := k0; exact DataW.trod_lt m _ _ _ hm
  have lt1 : ∀ x ∈ p1, x.block < W.heap.size := by obtain ⟨m, hm⟩ := k1; exact DataW.trod_lt m _ _ _ hm
  obtain ⟨f0, hf0⟩ := h0
  obtain ⟨f1, hf1⟩ := h1
  obtain ⟨x2, rfl, rfl, rfl, w2⟩ := open_int Ybad.underlying23 (hval 2 23 v2 rfl rfl) h2
  obtain ⟨x3, rfl, rfl, rfl, w3⟩ := open_int Ybad.underlying5 (hval 3 5 v3 rfl rfl) h3
  obtain ⟨x4, rfl, rfl, rfl, w4⟩ := open_int Ybad.underlying23 (hval 4 23 v4 rfl rfl) h4
  have hG := glob_of_var hvar
  have hB0 : 0 < W.heap.size := block_lt_of_cell (hG 0 0 (by omega) (by omega))
  clear hA0 hV0 hval0
  refine (walk (v0 := .bool true) (v1 := .bool true) hG hf0 hf1 x2 x3 x4 w2 w3 w4).mono fun e W' ⟨he, bel⟩ => ?_
  subst he
  have hvar' := var?_below bel hg hB0 hvar
  have hvars : ∀ sp : Nat → Bool, DataW.TrodVars enc Ybad.prog W' sp [tabName] [tabD] (MemPlace.row ⟨0, 0, none⟩ tabCells.size ++ [] ++ []) :=
    fun sp => ⟨0, 56, tabCells, 4, [], [], hg, ht, hvar', reads_tab enc W' sp, rfl, rfl⟩
  exact ⟨_, rfl, _, _, _, [], _, MemPlace.row ⟨0, 0, none⟩ tabCells.size ++ [] ++ [], hW', trodAll_mk1 (shut_bool Ybad.underlying4 _), (trodAll_cons_mk (Below.trod laidOut (by kernel_rfl) (of_decide_eq_true (by kernel_rfl)) k0 bel lt0) (trodAll_cons_mk (Below.trod laidOut (by kernel_rfl) (of_decide_eq_true (by kernel_rfl)) k1 bel lt1) (trodAll_cons_mk (shut_int Ybad.underlying23 w2) (trodAll_cons_mk (shut_int Ybad.underlying5 w3) (trodAll_cons_mk (shut_int Ybad.underlying23 w4) trodAll_mk0))))), hvars _, bel.frame _, fun h => by cases h⟩

theorem row_holds : Rows.LawS7829CWholeSaid :=
  OpenClaim.holds_of_wide 3 Ybad.f3 rfl rfl rfl rfl rfl rfl rfl ⟨rfl, rfl, rfl, rfl, rfl⟩ rfl rfl rfl rfl rfl (by kernel_rfl) Ybad.func3 (by kernel_rfl)
    (of_decide_eq_true (by kernel_rfl)) (by unfold Func.isWrapper; first | (rw [if_pos (by decide +kernel)]; kernel_rfl) | (rw [if_neg (by decide +kernel)]; exact ⟨rfl, rfl⟩))
    (fun os started H enc _ => lifted os started H enc)

theorem card_holds : Rows.LawS7829CWholeCardSaid :=
  Claim7.holds_tied_plain_at .later [] [.wider] true (true, "d263a368731a4ed8bbf68cea2d24ec2ec8774d73249d26d02980fc957681db1f") false
    row_holds (fun _ h => by cases h) (by kernel_rfl) (fun _ h => by cases h) lawS7829CWhole_row_tie rfl ⟨rfl, rfl⟩ (by kernel_rfl) rfl
    (fun f fn hf hfn => by
      obtain rfl : f = 3 := Option.some.inj ((show Ybad.prog.funcNamed Rows.lawS7829CWholeRow.func = some 3 by kernel_rfl).symm.trans hf) |>.symm
      obtain rfl : fn = Ybad.f3 := (Option.some.inj (Ybad.func3.symm.trans hfn)).symm
      exact ⟨by kernel_rfl, fun j t ht => by
        rw [Ybad.params3] at ht
        have hm : t ∈ [22, 22, 23, 5, 23] := by simpa using Array.mem_of_getElem? ht
        have hall : ([22, 22, 23, 5, 23].all fun u => !Ybad.prog.wantsStandIn u) = true := by kernel_rfl
        exact (show Ybad.prog.wantsStandIn t = false by simpa using List.all_eq_true.1 hall t hm)⟩)
    (by kernel_rfl)
#print axioms card_holds
end Go.Proofs.YbulkffcqDoor
