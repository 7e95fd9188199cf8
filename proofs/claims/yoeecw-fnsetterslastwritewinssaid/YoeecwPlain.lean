/-
  THE PLAIN LAW of 'FnSettersLastWriteWins': no Go in sight. Of a row of operations o 0, o 1, ..: what the last one of a kind wrote, and where it stood.
-/
namespace Go.Proofs.Yoeecw

/-- After k operations: what the last one of this kind wrote (v i: what operation i writes); d where there was none. -/
def lastVal {α : Type} (o : Nat → Int) (kind : Int) (d : α) (v : Nat → α) : Nat → α
  | 0 => d
  | k + 1 => if o k % 4 = kind then v k else lastVal o kind d v k

/-- Of the first k operations: the place of the last one of this kind; -1 where there is none. -/
def lastIdx (o : Nat → Int) (kind : Int) : Nat → Int
  | 0 => -1
  | k + 1 => if o k % 4 = kind then (k : Int) else lastIdx o kind k

theorem lastVal_hit {α : Type} {o : Nat → Int} {kind : Int} {d : α} {v : Nat → α} {k : Nat} (h : o k % 4 = kind) : lastVal o kind d v (k + 1) = v k := by
  simp [lastVal, h]
theorem lastVal_miss {α : Type} {o : Nat → Int} {kind : Int} {d : α} {v : Nat → α} {k : Nat} (h : ¬ o k % 4 = kind) : lastVal o kind d v (k + 1) = lastVal o kind d v k := by
  simp [lastVal, h]
theorem lastIdx_hit {o : Nat → Int} {kind : Int} {k : Nat} (h : o k % 4 = kind) : lastIdx o kind (k + 1) = (k : Int) := by
  simp [lastIdx, h]
theorem lastIdx_miss {o : Nat → Int} {kind : Int} {k : Nat} (h : ¬ o k % 4 = kind) : lastIdx o kind (k + 1) = lastIdx o kind k := by
  simp [lastIdx, h]

theorem lastIdx_range (o : Nat → Int) (kind : Int) (k : Nat) : -1 ≤ lastIdx o kind k ∧ lastIdx o kind k < k := by
  induction k with
  | zero => simp [lastIdx]
  | succ k ih =>
    by_cases h : o k % 4 = kind
    · rw [lastIdx_hit h]; omega
    · rw [lastIdx_miss h]; omega

/-- There was none: the value is the one from before. -/
theorem lastVal_none {α : Type} (o : Nat → Int) (kind : Int) (d : α) (v : Nat → α) (k : Nat) (h : lastIdx o kind k < 0) : lastVal o kind d v k = d := by
  induction k with
  | zero => rfl
  | succ k ih =>
    by_cases g : o k % 4 = kind
    · rw [lastIdx_hit g] at h; omega
    · rw [lastIdx_miss g] at h; rw [lastVal_miss g]; exact ih h

/-- There was one, at place j: the value is what it wrote. -/
theorem lastVal_some {α : Type} (o : Nat → Int) (kind : Int) (d : α) (v : Nat → α) (k j : Nat) (h : lastIdx o kind k = (j : Int)) : lastVal o kind d v k = v j := by
  induction k with
  | zero => simp [lastIdx] at h
  | succ k ih =>
    by_cases g : o k % 4 = kind
    · rw [lastIdx_hit g] at h
      have e : k = j := by omega
      rw [lastVal_hit g, e]
    · rw [lastIdx_miss g] at h; rw [lastVal_miss g]; exact ih h

end Go.Proofs.Yoeecw
