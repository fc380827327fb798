/- Where a step to a sign goes: plain. -/
import Derived.Test.YtoimdbmjpkmkfaaDoorKeyBase
namespace Go.Proofs.YtoimdbmjpkmkfaaDoor
open Go.RowKit
set_option linter.unusedVariables false

/-- The last place of a number ahead of a place; -1 if there is none. -/
def lastTo (l : List Int) (c : Int) : Nat → Int
  | 0 => -1
  | k + 1 => if nth l k = c then k else lastTo l c k
def mvR (back : Bool) (l : List Int) (c : Int) (k : Nat) : Int := if back then lastTo l c k else firstFrom l c (k + 1)
def mvT (back : Bool) (l : List Int) (c : Int) (k : Nat) : Bool := decide (mvR back l c k ≠ -1)
def mvK (short back : Bool) (l : List Int) (c : Int) (k : Nat) : Nat :=
  if mvR back l c k = -1 then k else if short then (if back then (mvR back l c k).toNat + 1 else (mvR back l c k).toNat - 1) else (mvR back l c k).toNat
theorem mv_none {back : Bool} {l : List Int} {c : Int} {k : Nat} (h : mvR back l c k = -1) (short : Bool) : mvT back l c k = false ∧ mvK short back l c k = k := by
  unfold mvT mvK
  rw [h]; exact ⟨rfl, rfl⟩
theorem mv_some {back : Bool} {l : List Int} {c : Int} {k i : Nat} (h : mvR back l c k = (i : Nat)) (short : Bool) : mvT back l c k = true ∧ mvK short back l c k = if short then (if back then i + 1 else i - 1) else i := by
  unfold mvT mvK
  rw [h]
  refine ⟨by simp, ?_⟩
  rw [if_neg (by omega)]
  simp
theorem lastTo_lt (l : List Int) (c : Int) : ∀ k, lastTo l c k < k
  | 0 => by unfold lastTo; omega
  | k + 1 => by
    have := lastTo_lt l c k
    unfold lastTo
    split <;> omega
theorem lastTo_ge (l : List Int) (c : Int) : ∀ k, -1 ≤ lastTo l c k
  | 0 => by unfold lastTo; omega
  | k + 1 => by
    have := lastTo_ge l c k
    unfold lastTo
    split <;> omega
theorem firstAt_lt : ∀ (l : List Int) (c : Int) (k : Nat), firstAt l c k < (k : Int) + l.length
  | [], c, k => by simp [firstAt]; omega
  | z :: l, c, k => by
    have := firstAt_lt l c (k + 1)
    unfold firstAt
    split
    · simp; omega
    · simp at this ⊢; omega
theorem mvK_le (short back : Bool) (l : List Int) (c : Int) (k : Nat) (hk : k ≤ l.length) : mvK short back l c k ≤ l.length := by
  by_cases e : mvR back l c k = -1
  · rw [(mv_none e short).2]; exact hk
  · unfold mvK
    rw [if_neg e]
    cases back
    · unfold mvR at e ⊢
      simp only [Bool.false_eq_true, if_false] at e ⊢
      have h : firstFrom l c (k + 1) < l.length := by
        unfold firstFrom at e ⊢
        have := firstAt_lt (l.drop (k + 1)) c (k + 1)
        simp at this
        by_cases h : k + 1 ≤ l.length
        · omega
        · rw [List.drop_eq_nil_of_le (by omega)] at e
          exact absurd rfl e
      split <;> omega
    · unfold mvR at e ⊢
      simp only [if_true] at e ⊢
      have := lastTo_lt l c k
      have := lastTo_ge l c k
      split <;> omega
end Go.Proofs.YtoimdbmjpkmkfaaDoor
