import Derived.Test.YbulkfepsBarr
import Derived.Deep.LoopGhost
namespace Go.Proofs.Ybulkfeps.lawS7805BWhole
open Go.ChangeShapes Go.WideShapes Go.ChangeAt Go.RowKit
set_option linter.unusedVariables false

/-- The counts as they lie in memory, under block hi. -/
def CntIn (w : World) (hi C nn : Nat) (cx : Nat → Nat) (c : Nat → Nat → Int) : Prop :=
  C < hi ∧ Blk w C 48 nn (fun x => .slice (some ⟨cx x, 0, none⟩) nn nn) ∧ ∀ x, x < nn → cx x < hi ∧ Blk w (cx x) 3 nn (fun y => .int .i64 (c x y))

theorem CntIn.keep {w w' : World} {hi C nn : Nat} {cx : Nat → Nat} {c : Nat → Nat → Int} (h : CntIn w hi C nn cx c) (hC : w'.heap[C]? = w.heap[C]?) (hx : ∀ x, x < nn → w'.heap[cx x]? = w.heap[cx x]?) : CntIn w' hi C nn cx c :=
  ⟨h.1, h.2.1.frame hC, fun x hx' => ⟨(h.2.2 x hx').1, (h.2.2 x hx').2.frame (hx x hx')⟩⟩

/-- Joined by a link. -/
def adjOf (nn : Nat) (c : Nat → Nat → Int) (x y : Nat) : Prop := x < nn ∧ y < nn ∧ c x y ≠ 0
/-- Let pass. -/
def okOf (bs : List Bool) (y : Nat) : Prop := bs.getD y false = false

def nat64 (x : Nat) : Value := .int .i64 (x : Int)

/-- The search from a over the counts: what has been found when i of the queue are done. -/
structure RI (nn : Nat) (c : Nat → Nat → Int) (bs : List Bool) (a b : Nat) (Q : List Nat) (f : Nat → Bool) (i : Nat) : Prop where
  fa : f a = true
  inQ : ∀ x, x ∈ Q → x < nn ∧ Rch (adjOf nn c) (okOf bs) a x
  fQ : ∀ x, f x = true → x ∈ Q
  cnt : unseen f nn + Q.length = nn
  le : i ≤ Q.length
  done : ∀ j x, j < i → Q[j]? = some x → ∀ y, adjOf nn c x y → y ≠ b ∧ (okOf bs y → f y = true)

theorem RI.start {nn : Nat} {c : Nat → Nat → Int} {bs : List Bool} {a b : Nat} (ha : a < nn) : RI nn c bs a b [a] (upd (fun _ => false) a true) 0 where
  fa := upd_same _ _ _
  inQ := fun x hx => by
    obtain rfl := List.mem_singleton.1 hx
    exact ⟨ha, Rch.root _⟩
  fQ := fun x hx => by
    by_cases e : x = a
    · simp [e]
    · rw [upd_other _ _ e] at hx
      cases hx
  cnt := by
    have := unseen_mark (fun _ => false) a rfl nn ha
    rw [unseen_none] at this
    simpa using this
  le := Nat.zero_le _
  done := fun j x hj => absurd hj (Nat.not_lt_zero _)

/-- One more is entered. -/
theorem RI.enter {nn : Nat} {c : Nat → Nat → Int} {bs : List Bool} {a b : Nat} {Q : List Nat} {f : Nat → Bool} {i x y : Nat} (h : RI nn c bs a b Q f i) (hx : x ∈ Q) (e : adjOf nn c x y) (ho : okOf bs y) (hf : f y = false) :
    RI nn c bs a b (Q ++ [y]) (upd f y true) i where
  fa := by
    by_cases q : a = y
    · rw [q, upd_same]
    · rw [upd_other _ _ q]; exact h.fa
  inQ := fun z hz => by
    rcases List.mem_append.1 hz with hz | hz
    · exact h.inQ z hz
    · obtain rfl := List.mem_singleton.1 hz
      exact ⟨e.2.1, (h.inQ x hx).2.step e ho⟩
  fQ := fun z hz => by
    by_cases q : z = y
    · simp [q]
    · rw [upd_other _ _ q] at hz
      exact List.mem_append.2 (.inl (h.fQ z hz))
  cnt := by
    have := unseen_mark f y hf nn e.2.1
    have := h.cnt
    simp
    omega
  le := by have := h.le; simp; omega
  done := fun j z hj hz w' hw => by
    have hl := h.le
    rw [List.getElem?_append_left (by omega)] at hz
    obtain ⟨h1, h2⟩ := h.done j z hj hz w' hw
    refine ⟨h1, fun o => ?_⟩
    by_cases q : w' = y
    · rw [q, upd_same]
    · rw [upd_other _ _ q]; exact h2 o

/-- What the inner loop has shown of x when it stands at y. -/
def Upto (nn : Nat) (c : Nat → Nat → Int) (bs : List Bool) (b x y : Nat) (f : Nat → Bool) : Prop := ∀ z, z < y → adjOf nn c x z → z ≠ b ∧ (okOf bs z → f z = true)

theorem Upto.more {nn : Nat} {c : Nat → Nat → Int} {bs : List Bool} {b x y : Nat} {f f' : Nat → Bool} (h : Upto nn c bs b x y f) (hf : ∀ z, f z = true → f' z = true) (hy : adjOf nn c x y → y ≠ b ∧ (okOf bs y → f' y = true)) : Upto nn c bs b x (y + 1) f' := by
  intro z hz e
  by_cases q : z = y
  · subst q
    exact hy e
  · obtain ⟨h1, h2⟩ := h z (by omega) e
    exact ⟨h1, fun o => hf z (h2 o)⟩

theorem RI.next {nn : Nat} {c : Nat → Nat → Int} {bs : List Bool} {a b : Nat} {Q : List Nat} {f : Nat → Bool} {i x : Nat} (h : RI nn c bs a b Q f i) (hi : Q[i]? = some x) (hu : Upto nn c bs b x nn f) : RI nn c bs a b Q f (i + 1) where
  fa := h.fa
  inQ := h.inQ
  fQ := h.fQ
  cnt := h.cnt
  le := (List.getElem?_eq_some_iff.1 hi).1
  done := fun j z hj hz w' hw => by
    by_cases q : j = i
    · subst q
      rw [hi] at hz
      cases hz
      exact hu w' hw.2.1 hw
    · exact h.done j z (by omega) hz w' hw

theorem RI.over {nn : Nat} {c : Nat → Nat → Int} {bs : List Bool} {a b : Nat} {Q : List Nat} {f : Nat → Bool} {i : Nat} (h : RI nn c bs a b Q f i) (hi : Q.length ≤ i) (hne : a ≠ b) : ¬ Conn (adjOf nn c) (okOf bs) a b :=
  not_conn (fun x => f x = true) h.fa hne (fun x y hx e => by
    obtain ⟨j, hj⟩ := List.mem_iff_getElem?.1 (h.fQ x hx)
    have := (List.getElem?_eq_some_iff.1 hj).1
    exact h.done j x (by omega) hj y e)

/-- The marks and the queue in memory. -/
structure RM (w : World) (V nn : Nat) (qv : Value) (Q : List Nat) (f : Nat → Bool) (w0 : World) : Prop where
  vis : Blk w V 4 nn (fun x => .bool (f x))
  own : w.ownsRow (V + 1) 3 1 qv Q.length (Q.map nat64)
  size : V < w.heap.size
  low : Below V w0 w

theorem RM.drewN {w : World} {V nn : Nat} {qv : Value} {Q : List Nat} {f : Nat → Bool} {w0 : World} (h : RM w V nn qv Q f w0) (k : Nat) : RM (w.drewN k) V nn qv Q f w0 := ⟨h.vis, h.own, h.size, below_drewN h.low k⟩

/-- One more in both. -/
theorem RM.push {w : World} {V nn : Nat} {qv : Value} {Q : List Nat} {f : Nat → Bool} {w0 : World} (h : RM w V nn qv Q f w0) (y : Nat) (hQ : Q.length ≤ 1000) :
    ∃ g' cap' w', (Builtin.append_ #[48, 48] 48 #[qv, .slice (some ⟨w.heap.size, 0, none⟩) 1 1]).run Yba.prog ((w.setCell ⟨V, y, none⟩ (.bool true)).alloc (.cells #[.int .i64 (y : Int)] 3)) = .ok (.slice (some ⟨g', 0, none⟩) (Q.length + 1) cap') w' ∧
      RM w' V nn (.slice (some ⟨g', 0, none⟩) (Q.length + 1) cap') (Q ++ [y]) (upd f y true) w0 := by
  have hv : ∀ k, qv.ownBlock = some k → V + 1 ≤ k := fun k hk => (h.own.lt k hk).1
  have hs : (w.setCell ⟨V, y, none⟩ (.bool true)).heap.size = w.heap.size := by simp [World.setCell]
  have ho : (w.setCell ⟨V, y, none⟩ (.bool true)).ownsRow (V + 1) 3 1 qv Q.length (Q.map nat64) := owns_frame h.own (fun k hk => heap_setCell_other _ _ _ _ (fun e => by
    have := hv k hk
    have e : k = V := e
    omega))
  have hsz := h.size
  obtain ⟨g', cap', w', hr, h1, h2, h3⟩ := push_int (w.setCell ⟨V, y, none⟩ (.bool true)) (V + 1) 48 qv Q.length (Q.map nat64) y ho (by omega) (by rw [hs]; omega)
  rw [hs] at hr
  have hset := h.vis.set y (.bool true)
  rw [upd_map] at hset
  refine ⟨g', cap', w', hr, ?_, ?_, ?_, ?_⟩
  · exact hset.keep h2 (by rw [hs]; exact hsz) (fun e => by have := hv V e; omega)
  · rw [List.map_append, List.length_append]
    exact h1
  · have := h2.size
    rw [hs] at this
    omega
  · exact (h.low.setCell (p := ⟨V, y, none⟩) (Nat.le_refl _) _).trans (h2.below (by rw [hs]; omega) (fun k hk e => by have := hv k e; omega))

set_option maxHeartbeats 1600000 in
theorem reach_any (w : World) (base0 hi C nn : Nat) (cx : Nat → Nat) (c : Nat → Nat → Int) (bv : Value) (bs : List Bool) (a b : Nat) (hcnt : CntIn w hi C nn cx c) (hbr : BoolRow w base0 bv bs) (h1 : hi ≤ w.heap.size) (h2 : base0 ≤ w.heap.size) (ha : a < nn) (hb : b < nn) (hnn : nn ≤ 40) :
    Calls Yba.prog 12 #[.slice (some ⟨C, 0, none⟩) nn nn, bv, .int .i64 (a : Int), .int .i64 (b : Int)] w fun e w' =>
      ∃ r : Bool, e = .returned (.bool r) ∧ (r = true ↔ Conn (adjOf nn c) (okOf bs) a b) ∧ Below w.heap.size w w' := by
  have HCN : Hid (CntIn w hi C nn cx c) := hcnt
  have HBR : Hid (BoolRow w base0 bv bs) := hbr
  have mk := mkBools nn (by omega)
  clear hcnt hbr
  by_cases hab : a = b
  · subst hab
    go_enter Yba.func12, Yba.ntmps12
    go_wp2
    go_ret
    exact ⟨true, rfl, by simp [Conn], Below.refl _ _⟩
  · have hab' : ((a : Int) == (b : Int)) = false := by simp; omega
    have hV := Blk.new w 4 nn (fun _ => .bool false)
    have d1 := hV.cell ha
    have d2 := hV.frozen a
    have hV1 := hV.set a (.bool true)
    rw [upd_map (fun b => Value.bool b) (fun _ => false)] at hV1
    have RM0 : RM ((w.alloc (.cells ((arrOf (fun _ => .bool false) nn).setIfInBounds a (.bool true)) 4)).alloc (.cells #[.int .i64 (a : Int)] 3)) w.heap.size nn (.slice (some ⟨w.heap.size + 1, 0, none⟩) 1 1) [a] (upd (fun _ => false) a true) w := by
      have hN := Blk.new w 4 nn (upd (fun _ => .bool false) a (.bool true))
      rw [upd_map (fun b => Value.bool b) (fun _ => false)] at hN
      rw [arrOf_set, upd_map (fun b => Value.bool b) (fun _ => false)]
      refine ⟨hN.alloc _, ⟨rfl, .inr ⟨w.heap.size + 1, 1, #[.int .i64 (a : Int)], rfl, Nat.le_refl _, heap_alloc2_new _ _ _, Nat.le_refl _, by decide, rfl, rfl⟩⟩, ?_, ?_⟩
      · simp; omega
      · refine Below.alloc ((Below.refl _ _).alloc (Nat.le_refl _) _) ?_ _
        simp
    have HRM : Hid (RM ((w.alloc (.cells ((arrOf (fun _ => .bool false) nn).setIfInBounds a (.bool true)) 4)).alloc (.cells #[.int .i64 (a : Int)] 3)) w.heap.size nn (.slice (some ⟨w.heap.size + 1, 0, none⟩) 1 1) [a] (upd (fun _ => false) a true) w) := RM0
    clear hV hV1 RM0
    go_enter Yba.func12, Yba.ntmps12
    go_wp2_with fail
    generalize hw1 : World.alloc _ (Obj.cells #[Value.int .i64 (a : Int)] 3) = w1 at *
    clear hw1 d1 d2
    go_loopw [11, 12] (fun q i wr => ∃ (k : Nat) (Q : List Nat) (f : Nat → Bool), i = .int .i64 (k : Int) ∧ RI nn c bs a b Q f k ∧ RM wr w.heap.size nn q Q f w) (fun _ i _ => nn - (intOf i).toNat)
    case atStart => exact ⟨0, [a], _, rfl, RI.start ha, HRM.out⟩
    case round =>
      clear HRM
      obtain ⟨k, Q, f, rfl, hRI, hRM⟩ := hrel
      have HRI : Hid (RI nn c bs a b Q f k) := hRI
      have HRM : Hid (RM wr w.heap.size nn u11 Q f w) := hRM
      obtain ⟨ao, cap, rfl, _, _, hao, hao'⟩ := owns_form hRM.own
      have hQn : Q.length ≤ nn := by have := hRI.cnt; omega
      have hle := hRI.le
      clear hRI hRM
      by_cases hlt : k < Q.length
      · obtain ⟨g, rfl⟩ : ∃ g, ao = some ⟨g, 0, none⟩ := by
          rcases hao with rfl | h
          · have := (hao' rfl).1; omega
          · exact h
        obtain ⟨x, hx⟩ : ∃ x, Q[k]? = some x := ⟨Q[k], List.getElem?_eq_getElem hlt⟩
        have hc : wr.cell? ⟨g, k, none⟩ = some (.int .i64 (x : Int)) := owns_cell HRM.out.own (by simp [hx, nat64])
        have HX : Hid (Q[k]? = some x) := hx
        clear hx hao hao'
        go_wp2_with fail
        go_loopw [11, 14] (fun q i wr => ∃ (y : Nat) (Q : List Nat) (f : Nat → Bool), i = .int .i64 (y : Int) ∧ y ≤ nn ∧ RI nn c bs a b Q f k ∧ RM wr w.heap.size nn q Q f w ∧ Q[k]? = some x ∧ Upto nn c bs b x y f) (fun _ i _ => nn - (intOf i).toNat)
        case atStart => exact ⟨0, Q, f, rfl, Nat.zero_le _, HRI.out, HRM.out, HX.out, fun z hz => absurd hz (Nat.not_lt_zero _)⟩
        case round =>
          clear HRI HRM HX hc hlt hle hQn
          obtain ⟨y, Q, f, rfl, hyn, hRI, hRM, hX, hU⟩ := hrel
          have HRI : Hid (RI nn c bs a b Q f k) := hRI
          have HRM : Hid (RM wr w.heap.size nn u11 Q f w) := hRM
          have HX : Hid (Q[k]? = some x) := hX
          have HU : Hid (Upto nn c bs b x y f) := hU
          have hQn : Q.length ≤ nn := by have := hRI.cnt; omega
          have hxn : x < nn := (hRI.inQ x (List.mem_of_getElem? hX)).1
          have hk : k < Q.length := (List.getElem?_eq_some_iff.1 hX).1
          clear hRI hRM hX hU
          by_cases hlt : y < nn
          · have hCx := HCN.out.2.2 x hxn
            have hC0 := HCN.out.1
            have c1 : wr.cell? ⟨C, x, none⟩ = some (.slice (some ⟨cx x, 0, none⟩) nn nn) := (HRM.out.low.cell (p := ⟨C, x, none⟩) (by show C < _; omega)).trans (HCN.out.2.1.cell hxn)
            have c2 : wr.cell? ⟨cx x, y, none⟩ = some (.int .i64 (c x y)) := (HRM.out.low.cell (p := ⟨cx x, y, none⟩) (by show cx x < _; omega)).trans (hCx.2.cell hlt)
            have c3 := HRM.out.vis.cell hlt
            have c4 := HRM.out.vis.frozen y
            clear hCx hC0
            generalize cx x = Cx at c1 c2
            by_cases hz : c x y = 0
            · have HZ : Hid (c x y = 0) := hz
              rw [hz] at c2
              clear hz
              go_wp2_with fail
              go_roundw
              case rel => go_light; exact ⟨y + 1, Q, f, by go_num, by omega, HRI.out, HRM.out, HX.out, HU.out.more (fun _ h => h) (fun e => absurd HZ.out e.2.2)⟩
              case measure => simp [intOf]; omega
            · have HE : Hid (adjOf nn c x y) := ⟨hxn, hlt, hz⟩
              have hz' : (c x y == 0) = false := by simpa using hz
              clear hz
              generalize c x y = cv at c2 hz'
              by_cases hyb : y = b
              · subst hyb
                go_wp2_with fail
                go_ret
                exact ⟨true, rfl, ⟨fun _ => .inr ⟨x, (HRI.out.inQ x (List.mem_of_getElem? HX.out)).2, HE.out⟩, fun _ => rfl⟩, HRM.out.low⟩
              · have hyb' : ((y : Int) == (b : Int)) = false := by simp; omega
                cases hfy : f y with
                | true =>
                  rw [hfy] at c3
                  have HF : Hid (f y = true) := hfy
                  clear hfy
                  go_wp2_with fail
                  go_roundw
                  case rel => go_light; exact ⟨y + 1, Q, f, by go_num, by omega, HRI.out, HRM.out, HX.out, HU.out.more (fun _ h => h) (fun e => ⟨hyb, fun _ => HF.out⟩)⟩
                  case measure => simp [intOf]; omega
                | false =>
                  rw [hfy] at c3
                  have HF : Hid (f y = false) := hfy
                  have HB : Hid (BoolRow wr base0 bv bs) := HBR.out.keep (fun k hk => HRM.out.low.block k (by omega))
                  clear hfy
                  cases hby : bs.getD y false with
                  | true =>
                    have HY : Hid (bs.getD y false = true) := hby
                    clear hby
                    go_wp2_with (go_at_call 10; refine (bblk_any HB.out y).mono ?_; rw [HY.out]; rintro e w'' ⟨rfl, rfl⟩)
                    go_roundw
                    case rel => go_light; exact ⟨y + 1, Q, f, by go_num, by omega, HRI.out, HRM.out, HX.out, HU.out.more (fun _ h => h) (fun e => ⟨hyb, fun o => by have o : bs.getD y false = false := o; rw [HY.out] at o; cases o⟩)⟩
                    case measure => simp [intOf]; omega
                  | false =>
                    have HY : Hid (bs.getD y false = false) := hby
                    clear hby
                    obtain ⟨g', cap', w', hrun, hRM'⟩ := HRM.out.push y (by omega)
                    have HR : Hid _ := hrun
                    have HM : Hid _ := hRM'
                    clear hrun hRM'
                    go_wp2_with (first | (go_at_call 10; refine (bblk_any HB.out y).mono ?_; rw [HY.out]; rintro e w'' ⟨rfl, rfl⟩) | (at_builtin; refine wpList_append_eq rfl (.tmp 67) (.tmp 69) 48 48 ?_ ?_ _ _ _ _ ?_ ?_ HR.out ?_; exact rfl; exact rfl; exact rfl; exact rfl))
                    go_roundw
                    case rel => go_light; exact ⟨y + 1, Q ++ [y], upd f y true, by go_num, by omega, HRI.out.enter (List.mem_of_getElem? HX.out) HE.out HY.out HF.out, HM.out, by rw [List.getElem?_append_left hk]; exact HX.out,
                      HU.out.more (fun z h => by by_cases q : z = y; rw [q, upd_same]; rw [upd_other _ _ q]; exact h) (fun e => ⟨hyb, fun _ => upd_same _ _ _⟩)⟩
                    case measure => simp [intOf]; omega
          · obtain rfl : y = nn := by omega
            go_wp2_with fail
            go_roundw
            case rel => go_light; exact ⟨k + 1, Q, f, by go_num, HRI.out.next HX.out HU.out, HRM.out⟩
            case measure => simp [intOf]; omega
      · go_wp2
        go_ret
        exact ⟨false, rfl, by simpa using HRI.out.over (by omega) hab, HRM.out.low⟩
end Go.Proofs.Ybulkfeps.lawS7805BWhole
