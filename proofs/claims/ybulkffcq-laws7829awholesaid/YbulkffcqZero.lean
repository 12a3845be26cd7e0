import Derived.Test.YbulkffcqRows
import Derived.KernelRfl
namespace Go.Proofs.Ybulkffcq

def isI32z : Value → Bool
  | .int .i32 0 => true
  | _ => false
def isI64z : Value → Bool
  | .int .i64 0 => true
  | _ => false
theorem isI32z_eq {v : Value} (h : isI32z v = true) : v = .int .i32 0 := by
  unfold isI32z at h
  split at h
  · rfl
  · cases h
theorem isI64z_eq {v : Value} (h : isI64z v = true) : v = .int .i64 0 := by
  unfold isI64z at h
  split at h
  · rfl
  · cases h

/-- What a shard's cell must be by its place: the mutex's state, 'granted', 'at': zero. -/
def okAt (c : Value) (q : Nat) : Bool := if Nat.beq q 0 then isI32z c else if Nat.beq q 6 then isI64z c else if Nat.beq q 15 then isI64z c else true
def okCells : List Value → Nat → Bool
  | [], _ => true
  | c :: r, p => okAt c (p % 144) && okCells r (p + 1)

theorem okCells_at : ∀ (l : List Value) (p : Nat), okCells l p = true → ∀ j c, l[j]? = some c → okAt c ((p + j) % 144) = true
  | [], _, _, j, c, hj => by simp at hj
  | a :: r, p, h, j, c, hj => by
    simp only [okCells, Bool.and_eq_true] at h
    match j, hj with
    | 0, hj => simp at hj; subst hj; exact h.1
    | j + 1, hj =>
      have := okCells_at r (p + 1) h.2 j c (by simpa using hj)
      rwa [show p + (j + 1) = p + 1 + j from by omega]

def okZero : Option Value → Bool
  | some (.agg z) => Nat.beq z.toList.length 37755 && (okCells ((z.toList.drop 1).take 36864) 0 && (match z.toList.drop 37633 with | c :: _ => isI32z c | [] => false))
  | _ => false
set_option maxRecDepth 1000000 in
theorem zero62 : (Yba.prog.info? 62).map (fun i => okZero i.zero) = some true := by kernel_rfl
end Go.Proofs.Ybulkffcq
