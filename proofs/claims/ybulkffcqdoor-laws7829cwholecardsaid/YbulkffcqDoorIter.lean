import Derived.Test.YbulkffcqDoorRange
import Derived.Test.YbulkffcqDoorCompat
import Derived.RangeFuncNested
import Derived.RangeFuncBound
import Derived.RangeFuncCalls
import Derived.RangeFuncLeaves
import Derived.Shelf.Abstract
import Derived.Shelf.RegionOpen
import Derived.WalkKit
import Derived.OwnWalkIn
import Derived.TacticsInMore
import Derived.LoopNIn
import Derived.LoopIn
import Derived.Maps.AppendAt
namespace Go.Proofs.YbulkffcqDoor
open Go.RowKit Go.Shelf
attribute [local go_sem] Oper.semAt_some
set_option linter.unusedVariables false

/-- What the iterator reads: the number of grants, its count, the slice of grants. -/
structure ItFa (Bn Bp Bg Gr N : Nat) (ga : Nat → Addr) (k : Nat) (W : World) : Prop where
  n : W.cell? ⟨Bn, 0, none⟩ = some (.int .i64 (N : Int))
  p : W.cell? ⟨Bp, 0, none⟩ = some (.int .i64 (k : Int))
  fz : W.frozen? ⟨Bp, 0, none⟩ = false
  g : W.cell? ⟨Bg, 0, none⟩ = some (.slice (some ⟨Gr, 0, none⟩) N N)
  c : ∀ j, j < N → W.cell? ⟨Gr, j, none⟩ = some (.pointer (some (ga j)))

theorem otherB {W : World} {B B' o o' : Nat} {v : Value} (h : B ≠ B') : (W.setCell ⟨B, o, none⟩ v).cell? ⟨B', o', none⟩ = W.cell? ⟨B', o', none⟩ :=
  World.cell?_setCell_other W ⟨B, o, none⟩ ⟨B', o', none⟩ v (fun e => h (congrArg Addr.block e))

set_option maxHeartbeats 1000000 in
theorem iter_in (n : Nat) (hn : 1 ≤ n) (Bn Bp Bg Gr N : Nat) (ga : Nat → Addr) (hN : N ≤ 65536) (h1 : Bp ≠ Bn) (h2 : Bp ≠ Bg) (h3 : Bp ≠ Gr) :
    Pulls Fence.wide n Ybad.prog 4 #[.pointer (some ⟨Bn, 0, none⟩), .pointer (some ⟨Bp, 0, none⟩), .pointer (some ⟨Bg, 0, none⟩)] (fun k => #[.pointer (some (ga k))]) N
      (fun k W => W.setCell ⟨Bp, 0, none⟩ (.int .i64 ((k : Int) + 1))) (ItFa Bn Bp Bg Gr N ga) := fun l J Jx W hFa hY h0 => by
  have HF : Hid (∀ k W1, J k W1 → ItFa Bn Bp Bg Gr N ga k W1) := hFa
  have HY : Hid (∀ k W1, J k W1 → k < N → YieldAt Fence.wide (n - 1) Ybad.prog l #[.pointer (some (ga k))] (W1.setCell ⟨Bp, 0, none⟩ (.int .i64 ((k : Int) + 1))) fun e W' => (e = .returned (.bool true) ∧ J (k + 1) W') ∨ (e = .returned (.bool false) ∧ Jx (k + 1) W')) := hY
  clear hFa hY
  refine callsIn_of_wp Ybad.func4 rfl trivial ?_ rfl
  simp only [Ybad.ntmps4, List.size_toArray, List.length_cons, List.length_nil, Nat.reduceAdd, Nat.reduceSub, Array.replicate_succ, Array.replicate_zero, List.push_toArray, List.append_toArray, List.nil_append, List.cons_append]
  gi_wp2
  gi_loopw [5] (fun i wr => ∃ k : Nat, k ≤ N ∧ i = .int .i64 k ∧ J k wr) (fun i _ => N - (intOf i).toNat)
  case atStart => exact ⟨0, Nat.zero_le _, rfl, h0⟩
  case round =>
    obtain ⟨k, hk, rfl, hJ⟩ := hrel
    have fa := HF.out k wr hJ
    have f1 := fa.n
    have f2 := fa.p
    have f3 := fa.fz
    have f4 : (wr.setCell ⟨Bp, 0, none⟩ (.int .i64 ((k : Int) + 1))).cell? ⟨Bg, 0, none⟩ = some (.slice (some ⟨Gr, 0, none⟩) N N) := (otherB h2).trans fa.g
    by_cases hlt : k < N
    · have f5 : (wr.setCell ⟨Bp, 0, none⟩ (.int .i64 ((k : Int) + 1))).cell? ⟨Gr, k, none⟩ = some (.pointer (some (ga k))) := (otherB h3).trans (fa.c k hlt)
      obtain ⟨fn, tmps, assign, body, hy, hR⟩ := HY.out k wr hJ hlt
      clear fa
      gi_wp2
      refine hR.mono ?_
      rintro e W3 (⟨rfl, hJ3⟩ | ⟨rfl, hJx3⟩)
      · gi_wp2
        go_roundw
        case rel => exact ⟨k + 1, by omega, by go_num, hJ3⟩
        case measure => simp [intOf]; omega
      · gi_wp2
        refine bodyPost_ret (results_none rfl _ _ _) rfl ?_
        exact ⟨⟨_, rfl⟩, .inr ⟨k, hlt, hJx3⟩⟩
    · obtain rfl : N = k := by omega
      clear fa
      gi_wp2
      go_end0
      exact ⟨⟨_, rfl⟩, .inl hJ⟩
end Go.Proofs.YbulkffcqDoor
