import Derived.Test.YbulkffcqTab
namespace Go.Proofs.Ybulkffcq
open Go.ChangeShapes Go.WideShapes Go.ChangeAt Go.RowKit Go.MuLone
set_option linter.unusedVariables false

set_option maxHeartbeats 800000 in
set_option maxRecDepth 100000 in
theorem unlockAll_any (B : Nat) (g p : Nat → Int) (wt : Int) (w : World) (h : Tab w B (fun _ => 1) g p wt) :
    Calls Yba.prog 5 #[.pointer (some ⟨B, 0, none⟩)] w fun e w' => e = .returned (.tuple #[]) ∧ Tab w' B (fun _ => 0) g p wt ∧ Below B w w' ∧ w'.heap.size = w.heap.size := by
  have HT : Hid (Tab w B (fun _ => 1) g p wt) := h
  clear h
  go_enter Yba.func5, Yba.ntmps5
  go_wp2
  go_loopw [3] (fun i wr => ∃ k : Nat, k ≤ 256 ∧ i = .int .i64 k ∧ Tab wr B (thr k (fun _ => 0) (fun _ => 1)) g p wt ∧ Below B w wr ∧ wr.heap.size = w.heap.size) (fun i _ => 256 - (intOf i).toNat)
  case atStart => exact ⟨0, by omega, rfl, by rw [thr_zero]; exact HT.out, Below.refl _ _, rfl⟩
  case round =>
    clear HT
    obtain ⟨k, hk, rfl, hT, hB, hsz⟩ := hrel
    have HT : Hid (Tab wr B (thr k (fun _ => 0) (fun _ => 1)) g p wt) := hT
    have HB : Hid (Below B w wr) := hB
    have HS : Hid (wr.heap.size = w.heap.size) := hsz
    clear hT hB hsz
    by_cases hlt : k < 256
    · have hm := HT.out.mu k hlt
      rw [thr_at] at hm
      have hf := HT.out.fz (1 + k * 144)
      go_wp2_with fail
      refine (unlock_held muLib ⟨B, 1 + k * 144, none⟩ _ hm hf).mono ?_
      rintro e w' ⟨rfl, rfl⟩
      go_wp2
      go_roundw
      case rel => go_light; exact ⟨k + 1, by omega, by go_num, (HT.out.setMu hlt 0).congr (fun i _ => thr_step k (fun _ => 0) (fun _ => 1) i) (fun _ _ => rfl) (fun _ _ => rfl), HB.out.setCell (Nat.le_refl _) _, by simpa using HS.out⟩
      case measure => simp [intOf]; omega
    · go_wp2
      go_end0
      exact ⟨rfl, HT.out.congr (fun i hi => thr_lt _ _ (by omega)) (fun _ _ => rfl) (fun _ _ => rfl), HB.out, HS.out⟩
end Go.Proofs.Ybulkffcq
