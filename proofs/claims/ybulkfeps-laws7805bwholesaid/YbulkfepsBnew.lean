import Derived.Test.YbulkfepsBadd
namespace Go.Proofs.Ybulkfeps.lawS7805BWhole
open Go.ChangeShapes Go.WideShapes Go.ChangeAt Go.RowKit
set_option linter.unusedVariables false

/-- What 'newLinkGraph' hands back. -/
def NewPost (w : World) (nn : Nat) (e : Ending) (w' : World) : Prop :=
  ∃ (Bg Ba : Nat) (S : Nat → Nat), e = .returned (.pointer (some ⟨Bg, 0, none⟩)) ∧ GS w' w.heap.size Bg Ba nn S nilv [] (fun _ => nilv) (fun _ => []) (fun _ _ => 0) ∧
    (∀ t, t < 2 → Blk w' (S t) 3 nn (fun _ => .int .i64 0) ∧ w.heap.size ≤ S t) ∧ S 0 ≠ S 1 ∧ Below w.heap.size w w'

theorem new_ok {w w3 : World} {nn Ba S0 S1 B : Nat} (hA : Blk w3 Ba 64 nn (fun _ => .slice none 0 0)) (h0 : Blk w3 S0 3 nn (fun _ => .int .i64 0)) (h1 : Blk w3 S1 3 nn (fun _ => .int .i64 0)) (hne : S0 ≠ S1) (hB : B = w3.heap.size)
    (hb : Below w.heap.size w w3) (la : w.heap.size ≤ Ba) (l0 : w.heap.size ≤ S0) (l1 : w.heap.size ≤ S1) :
    NewPost w nn (.returned (.pointer (some ⟨B, 0, none⟩))) (w3.alloc (.cells #[.slice (some ⟨Ba, 0, none⟩) nn nn, .slice none 0 0, .int .i64 0, .slice (some ⟨S0, 0, none⟩) nn nn, .slice (some ⟨S1, 0, none⟩) nn nn, .slice none 0 0, .slice none 0 0, .slice none 0 0, .slice none 0 0] 57)) := by
  subst hB
  have hsz := hb.size
  refine ⟨w3.heap.size, Ba, fun t => if t = 0 then S0 else S1, rfl, ⟨?_, hA.alloc _, ⟨fun i hi => World.ownsRow_nil _ _ _ _, fun i j _ _ _ k hk => by cases hk⟩, fun x _ => RepL.nil nn, World.ownsRow_nil _ _ _ _, hsz, la, ?_⟩, ?_, hne, ?_⟩
  · exact heap_alloc_new w3 _
  · simp; omega
  · intro t ht
    match t, ht with
    | 0, _ => exact ⟨h0.alloc _, l0⟩
    | 1, _ => exact ⟨h1.alloc _, l1⟩
  · exact hb.alloc hsz _

theorem GS.drew {w : World} {base Bg Ba nn : Nat} {S : Nat → Nat} {cutv : Value} {cutL : List (Nat × Nat)} {av : Nat → Value} {L : Nat → List (Nat × Int)} {c : Nat → Nat → Int} (h : GS w base Bg Ba nn S cutv cutL av L c) : GS w.drew base Bg Ba nn S cutv cutL av L c :=
  ⟨h.g, h.adj, h.fam, h.rep, h.cut, h.lg, h.la, h.sz⟩

theorem NewPost.drew {w w' : World} {nn : Nat} {e : Ending} (h : NewPost w nn e w') : NewPost w nn e w'.drew := by
  obtain ⟨Bg, Ba, S, h1, h2, h3, h4, h5⟩ := h
  exact ⟨Bg, Ba, S, h1, h2.drew, h3, h4, h5.drew⟩

section
variable (w : World) (o0 o1 o2 : Obj)
theorem three0 : (((w.alloc o0).alloc o1).alloc o2).heap[w.heap.size]? = some o0 := by
  rw [Below.heap_alloc _ _ _ (by simp; omega), Below.heap_alloc _ _ _ (by simp)]
  exact heap_alloc_new w o0
theorem three1 : (((w.alloc o0).alloc o1).alloc o2).heap[w.heap.size + 1]? = some o1 := by
  rw [Below.heap_alloc _ _ _ (by simp)]
  exact heap_alloc2_new w o0 o1
theorem three2 : (((w.alloc o0).alloc o1).alloc o2).heap[w.heap.size + 1 + 1]? = some o2 := by
  have := heap_alloc_new ((w.alloc o0).alloc o1) o2
  have hs : ((w.alloc o0).alloc o1).heap.size = w.heap.size + 1 + 1 := by simp
  rwa [hs] at this
theorem three_below : Below w.heap.size w (((w.alloc o0).alloc o1).alloc o2) := (((Below.refl _ _).alloc (Nat.le_refl _) _).alloc (by simp) _).alloc (by simp; omega) _
end

set_option maxRecDepth 100000 in
set_option maxHeartbeats 4000000 in
theorem new_any (w : World) (nn : Nat) (hnn : nn ≤ 40) : Calls Yba.prog 7 #[.int .i64 (nn : Int)] w (NewPost w nn) := by
  have m1 := mkAdj nn (by omega)
  have m2 := mkInts nn (by omega)
  go_enter Yba.func7, Yba.ntmps7
  go_wp2_with fail
  go_region
  all_goals
    go_wp2_with fail
    go_ret
  all_goals
    refine NewPost.drew (new_ok ?_ ?_ ?_ ?_ ?_ (three_below _ _ _ _) ?_ ?_ ?_)
    · first | exact three0 _ _ _ _ | exact three1 _ _ _ _ | exact three2 _ _ _ _
    · first | exact three0 _ _ _ _ | exact three1 _ _ _ _ | exact three2 _ _ _ _
    · first | exact three0 _ _ _ _ | exact three1 _ _ _ _ | exact three2 _ _ _ _
    · omega
    · simp
    · omega
    · omega
    · omega
end Go.Proofs.Ybulkfeps.lawS7805BWhole
