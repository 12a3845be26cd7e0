import Derived.Test.YbulkffcqUnlock
import Derived.BigQuiet
import Derived.Deep.QuietTactic
namespace Go.Proofs.Ybulkffcq
open Go.ChangeShapes Go.WideShapes Go.ChangeAt Go.RowKit Go.MuLone
set_option linter.unusedVariables false

/-- What shard i's count is to be. -/
def wantN (n : Nat) (zs : List Int) (i : Nat) : Int := zs.getD (i % n) 0

set_option maxHeartbeats 1600000 in
set_option maxRecDepth 100000 in
theorem walk_pos (b off n c : Nat) (zs : List Int) (hw : Bool) (hn0 : 0 < n) (hn : n ≤ 1048576) (w : World)
    (hc : ∀ k, k < n → w.cell? ⟨b, off + k, none⟩ = some (.int .i64 (zs.getD k 0))) :
    Calls Yba.prog 3 #[.slice (some ⟨b, off, none⟩) n c, .bool hw] w fun e w' => e = .returned (.bool true) ∧ Below w.heap.size w w' := by
  obtain ⟨z, Z⟩ := zeroTab
  have HZ : Hid (ZeroTab z) := Z
  have HC : Hid (∀ k, k < n → w.cell? ⟨b, off + k, none⟩ = some (.int .i64 (zs.getD k 0))) := hc
  clear hc Z
  have hbB : b < w.heap.size := block_lt_of_cell (HC.out 0 (by omega))
  go_enter Yba.func3, Yba.ntmps3
  go_wp2_with (refine wpList_build62 HZ.out rfl ?_ ?_; exact rfl)
  have T0 := Tab.made HZ.out w
  have B0 : Below w.heap.size w (w.alloc (.cells z 62)) := (Below.refl _ _).alloc (Nat.le_refl _) _
  generalize w.alloc (.cells z 62) = w1 at T0 B0 ⊢
  have HT0 : Hid (Tab w1 w.heap.size (fun _ => 0) (fun _ => 0) (fun _ => 0) 0) := T0
  have HB0 : Hid (Below w.heap.size w w1) := B0
  clear T0 B0 HZ
  go_loopw [16] (fun i wr => ∃ k : Nat, k ≤ 256 ∧ i = .int .i64 k ∧ Tab wr w.heap.size (fun _ => 0) (thr k (wantN n zs) (fun _ => 0)) (thr k (fun j => j) (fun _ => 0)) 0 ∧ Below w.heap.size w wr) (fun i _ => 256 - (intOf i).toNat)
  case atStart => exact ⟨0, by omega, rfl, by rw [thr_zero, thr_zero]; exact HT0.out, HB0.out⟩
  case round =>
    clear HT0 HB0
    obtain ⟨k, hk, rfl, hT, hB⟩ := hrel
    have HT : Hid (Tab wr w.heap.size (fun _ => 0) (thr k (wantN n zs) (fun _ => 0)) (thr k (fun j => j) (fun _ => 0)) 0) := hT
    have HB : Hid (Below w.heap.size w wr) := hB
    clear hT hB
    by_cases hlt : k < 256
    · have hp := HT.out.pl k hlt
      have hf := HT.out.fz (1 + k * 144 + 15)
      have hmod : k % n < n := Nat.mod_lt _ hn0
      go_wp2_with fail
      clear hp hf
      have hck := (HB.out.cell (p := ⟨b, off + k % n, none⟩) hbB).trans (HC.out (k % n) hmod)
      have hck' : (wr.setCell ⟨w.heap.size, 1 + k * 144 + 15, none⟩ (.int .i64 k)).cell? ⟨b, off + k % n, none⟩ = _ := (World.cell?_setCell_other wr ⟨w.heap.size, 1 + k * 144 + 15, none⟩ ⟨b, off + k % n, none⟩ (.int .i64 k) (fun e => by have := congrArg Addr.block e; simp at this; omega)).trans hck
      have T1 := HT.out.setPl hlt (k : Int)
      have B1 := HB.out.setCell (p := ⟨w.heap.size, 1 + k * 144 + 15, none⟩) (Nat.le_refl _) (.int .i64 k)
      clear HT HB hck
      generalize wr.setCell ⟨w.heap.size, 1 + k * 144 + 15, none⟩ (.int .i64 k) = w2 at *
      have hg := T1.gr k hlt
      have hfg := T1.fz (1 + k * 144 + 6)
      have HT1 : Hid (Tab w2 w.heap.size (fun _ => 0) (thr k (wantN n zs) (fun _ => 0)) (fun j => if j = k then (k : Int) else thr k (fun j => j) (fun _ => 0) j) 0) := T1
      have HB1 : Hid (Below w.heap.size w w2) := B1
      have hne : ¬ b = w.heap.size := by omega
      clear T1 B1
      go_region
      all_goals
        go_wp2
        go_roundw
        case rel => go_light; exact ⟨k + 1, by omega, by go_num, ((HT1.out.setGr hlt (wantN n zs k)).congr (fun _ _ => rfl) (fun i _ => thr_step k (wantN n zs) (fun _ => 0) i) (fun i _ => thr_step k (fun j => j) (fun _ => 0) i)).drew, (HB1.out.setCell (Nat.le_refl _) _).drew⟩
        case measure => simp [intOf]; omega
    · have T2 : Tab wr w.heap.size (fun _ => 0) (wantN n zs) (fun j => (j : Int)) 0 := HT.out.congr (fun _ _ => rfl) (fun i hi => thr_lt _ _ (by omega)) (fun i hi => thr_lt _ _ (by omega))
      have HT2 : Hid (Tab wr w.heap.size (fun _ => 0) (wantN n zs) (fun j => (j : Int)) 0) := T2
      clear HT T2
      go_wp2_with fail
      clear hk hlt
      go_loopw [43] (fun i wq => ∃ k : Nat, k ≤ 256 ∧ i = .int .i64 k ∧ Tab wq w.heap.size (thr k (fun _ => 1) (fun _ => 0)) (wantN n zs) (fun j => (j : Int)) 0 ∧ Below w.heap.size w wq) (fun i _ => 256 - (intOf i).toNat)
      case atStart => exact ⟨0, by omega, rfl, by rw [thr_zero]; exact HT2.out, HB.out⟩
      case round =>
        clear HT2 HB
        obtain ⟨k, hk, rfl, hT, hB⟩ := hrel
        have HT : Hid (Tab wr w.heap.size (thr k (fun _ => 1) (fun _ => 0)) (wantN n zs) (fun j => (j : Int)) 0) := hT
        have HB : Hid (Below w.heap.size w wr) := hB
        clear hT hB
        by_cases hlt : k < 256
        · have hm := HT.out.mu k hlt
          rw [thr_at] at hm
          have hf := HT.out.fz (1 + k * 144)
          go_wp2_with fail
          refine (lock_free muLib ⟨w.heap.size, 1 + k * 144, none⟩ _ hm hf).mono ?_
          rintro e w' ⟨rfl, rfl⟩
          go_wp2
          go_roundw
          case rel => go_light; exact ⟨k + 1, by omega, by go_num, (HT.out.setMu hlt 1).congr (fun i _ => thr_step k (fun _ => 1) (fun _ => 0) i) (fun _ _ => rfl) (fun _ _ => rfl), HB.out.setCell (Nat.le_refl _) _⟩
          case measure => simp [intOf]; omega
        · have T2 : Tab wr w.heap.size (fun _ => 1) (wantN n zs) (fun j => (j : Int)) 0 := HT.out.congr (fun i hi => thr_lt _ _ (by omega)) (fun _ _ => rfl) (fun _ _ => rfl)
          have HT2 : Hid (Tab wr w.heap.size (fun _ => 1) (wantN n zs) (fun j => (j : Int)) 0) := T2
          clear HT T2
          cases hw with
          | true =>
            have hm := HT2.out.wt
            have hf := HT2.out.fz 37633
            go_wp2_with fail
            refine (lock_free muLib ⟨w.heap.size, 37633, none⟩ _ hm hf).mono ?_
            rintro e w' ⟨rfl, rfl⟩
            go_wp2_with fail
            have T3 := HT2.out.setWt 1
            have B3 := HB.out.setCell (p := ⟨w.heap.size, 37633, none⟩) (Nat.le_refl _) (.int .i32 1)
            clear HT2 HB hm hf
            refine (unlockAll_any w.heap.size (wantN n zs) (fun j => (j : Int)) 1 _ T3).mono ?_
            rintro e w3 ⟨rfl, T4, B4, _⟩
            have HT4 : Hid (Tab w3 w.heap.size (fun _ => 0) (wantN n zs) (fun j => (j : Int)) 1) := T4
            have HB4 : Hid (Below w.heap.size w w3) := B3.trans B4
            clear T3 B3 T4 B4
            go_wp2_with fail
            clear hk hlt
            go_loopw [8, 61] (fun ok i wq => ok = .bool true ∧ ∃ k : Nat, k ≤ 256 ∧ i = .int .i64 k ∧ Tab wq w.heap.size (fun _ => 0) (wantN n zs) (fun j => (j : Int)) 1 ∧ Below w.heap.size w wq) (fun _ i _ => 256 - (intOf i).toNat)
            case atStart => exact ⟨rfl, 0, by omega, rfl, HT4.out, HB4.out⟩
            case round =>
              clear HT4 HB4
              obtain ⟨rfl, k, hk, rfl, hT, hB⟩ := hrel
              have HT : Hid (Tab wr w.heap.size (fun _ => 0) (wantN n zs) (fun j => (j : Int)) 1) := hT
              have HB : Hid (Below w.heap.size w wr) := hB
              clear hT hB
              by_cases hlt : k < 256
              · have hp := HT.out.pl k hlt
                have hg : wr.cell? ⟨w.heap.size, 1 + k * 144 + 6, none⟩ = some (.int .i64 (zs.getD (k % n) 0)) := HT.out.gr k hlt
                have hm := HT.out.mu k hlt
                have hf := HT.out.fz (1 + k * 144)
                have hmod : k % n < n := Nat.mod_lt _ hn0
                have hck : wr.cell? ⟨b, off + k % n, none⟩ = some (.int .i64 (zs.getD (k % n) 0)) := (HB.out.cell (p := ⟨b, off + k % n, none⟩) hbB).trans (HC.out (k % n) hmod)
                generalize zs.getD (k % n) 0 = v at hck hg
                have hm1 := (HT.out.setMu hlt 1).mu k hlt
                rw [if_pos rfl] at hm1
                have hf1 := (HT.out.setMu hlt 1).fz (1 + k * 144)
                go_wp2_with fail
                refine (try_free ⟨w.heap.size, 1 + k * 144, none⟩ _ hm hf).mono ?_
                rintro e w' ⟨rfl, rfl⟩
                go_wp2_with fail
                refine (unlock_held muLib ⟨w.heap.size, 1 + k * 144, none⟩ _ hm1 hf1).mono ?_
                rintro e w' ⟨rfl, rfl⟩
                go_wp2
                go_roundw
                case rel => go_light; exact ⟨rfl, k + 1, by omega, by go_num, ((HT.out.setMu hlt 1).setMu hlt 0).congr (fun i _ => by by_cases e : i = k <;> simp [e]) (fun _ _ => rfl) (fun _ _ => rfl), (HB.out.setCell (Nat.le_refl _) _).setCell (Nat.le_refl _) _⟩
                case measure => simp [intOf]; omega
              · have hm := HT.out.wt
                have hf := HT.out.fz 37633
                go_wp2_with fail
                refine (try_held ⟨w.heap.size, 37633, none⟩ _ hm).mono ?_
                rintro e w' ⟨rfl, rfl⟩
                go_wp2_with fail
                refine (unlock_held muLib ⟨w.heap.size, 37633, none⟩ _ hm hf).mono ?_
                rintro e w' ⟨rfl, rfl⟩
                go_wp2
                go_ret
                exact ⟨rfl, HB.out.setCell (Nat.le_refl _) _⟩
          | false =>
            go_wp2_with fail
            have T3 := HT2.out
            have B3 := HB.out
            clear HT2 HB
            refine (unlockAll_any w.heap.size (wantN n zs) (fun j => (j : Int)) 0 _ T3).mono ?_
            rintro e w3 ⟨rfl, T4, B4, _⟩
            have HT4 : Hid (Tab w3 w.heap.size (fun _ => 0) (wantN n zs) (fun j => (j : Int)) 0) := T4
            have HB4 : Hid (Below w.heap.size w w3) := B3.trans B4
            clear T3 B3 T4 B4
            go_wp2_with fail
            clear hk hlt
            go_loopw [8, 61] (fun ok i wq => ok = .bool true ∧ ∃ k : Nat, k ≤ 256 ∧ i = .int .i64 k ∧ Tab wq w.heap.size (fun _ => 0) (wantN n zs) (fun j => (j : Int)) 0 ∧ Below w.heap.size w wq) (fun _ i _ => 256 - (intOf i).toNat)
            case atStart => exact ⟨rfl, 0, by omega, rfl, HT4.out, HB4.out⟩
            case round =>
              clear HT4 HB4
              obtain ⟨rfl, k, hk, rfl, hT, hB⟩ := hrel
              have HT : Hid (Tab wr w.heap.size (fun _ => 0) (wantN n zs) (fun j => (j : Int)) 0) := hT
              have HB : Hid (Below w.heap.size w wr) := hB
              clear hT hB
              by_cases hlt : k < 256
              · have hp := HT.out.pl k hlt
                have hg : wr.cell? ⟨w.heap.size, 1 + k * 144 + 6, none⟩ = some (.int .i64 (zs.getD (k % n) 0)) := HT.out.gr k hlt
                have hm := HT.out.mu k hlt
                have hf := HT.out.fz (1 + k * 144)
                have hmod : k % n < n := Nat.mod_lt _ hn0
                have hck : wr.cell? ⟨b, off + k % n, none⟩ = some (.int .i64 (zs.getD (k % n) 0)) := (HB.out.cell (p := ⟨b, off + k % n, none⟩) hbB).trans (HC.out (k % n) hmod)
                generalize zs.getD (k % n) 0 = v at hck hg
                have hm1 := (HT.out.setMu hlt 1).mu k hlt
                rw [if_pos rfl] at hm1
                have hf1 := (HT.out.setMu hlt 1).fz (1 + k * 144)
                go_wp2_with fail
                refine (try_free ⟨w.heap.size, 1 + k * 144, none⟩ _ hm hf).mono ?_
                rintro e w' ⟨rfl, rfl⟩
                go_wp2_with fail
                refine (unlock_held muLib ⟨w.heap.size, 1 + k * 144, none⟩ _ hm1 hf1).mono ?_
                rintro e w' ⟨rfl, rfl⟩
                go_wp2
                go_roundw
                case rel => go_light; exact ⟨rfl, k + 1, by omega, by go_num, ((HT.out.setMu hlt 1).setMu hlt 0).congr (fun i _ => by by_cases e : i = k <;> simp [e]) (fun _ _ => rfl) (fun _ _ => rfl), (HB.out.setCell (Nat.le_refl _) _).setCell (Nat.le_refl _) _⟩
                case measure => simp [intOf]; omega
              · have hm := HT.out.wt
                have hf := HT.out.fz 37633
                go_wp2_with fail
                have hm1 := (HT.out.setWt 1).wt
                have hf1 := (HT.out.setWt 1).fz 37633
                refine (try_free ⟨w.heap.size, 37633, none⟩ _ hm hf).mono ?_
                rintro e w' ⟨rfl, rfl⟩
                go_wp2_with fail
                refine (unlock_held muLib ⟨w.heap.size, 37633, none⟩ _ hm1 hf1).mono ?_
                rintro e w' ⟨rfl, rfl⟩
                go_wp2
                go_ret
                exact ⟨rfl, (HB.out.setCell (Nat.le_refl _) _).setCell (Nat.le_refl _) _⟩
end Go.Proofs.Ybulkffcq
