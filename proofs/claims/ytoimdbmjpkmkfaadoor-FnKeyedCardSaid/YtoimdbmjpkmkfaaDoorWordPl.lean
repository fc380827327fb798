/- Words in a line: where they begin. Plain. -/
import Derived.Test.YtoimdbmjpkmkfaaDoorKeyBase
namespace Go.Proofs.YtoimdbmjpkmkfaaDoor
open Go.RowKit
set_option linter.unusedVariables false

/-- A sign of words. -/
def isW (c : Int) : Bool := decide ((97 ≤ c ∧ c ≤ 122) ∨ (65 ≤ c ∧ c ≤ 90) ∨ (48 ≤ c ∧ c ≤ 57))
/-- A word begins at a place, behind something between words. -/
def begB (l : List Int) (k : Nat) : Bool := decide (0 < k ∧ k < l.length) && (isW (nth l k) && !isW (nth l (k - 1)))
/-- The last such place ahead of a place; -1. -/
def befW (l : List Int) : Nat → Int
  | 0 => -1
  | k + 1 => if begB l k then k else befW l k
def aftN (l : List Int) : Nat → Nat → Int
  | 0, _ => -1
  | n + 1, j => if begB l j then j else aftN l n (j + 1)
/-- The first such place from a place on; -1. -/
def aftW (l : List Int) (j : Nat) : Int := aftN l (l.length - j) j
theorem aftW_step (l : List Int) (j : Nat) (h : j < l.length) : aftW l j = if begB l j then (j : Int) else aftW l (j + 1) := by
  unfold aftW
  rw [show l.length - j = (l.length - (j + 1)) + 1 by omega]
  rfl
theorem aftW_end (l : List Int) (j : Nat) (h : l.length ≤ j) : aftW l j = -1 := by
  unfold aftW
  rw [show l.length - j = 0 by omega]
  rfl
def skipN (l : List Int) : Nat → Nat → Nat
  | 0, j => j
  | n + 1, j => if isW (nth l j) then j else skipN l n (j + 1)
/-- The first sign of a word from a place on, or the line's end. -/
def skipW (l : List Int) (j : Nat) : Nat := skipN l (l.length - j) j
theorem skipW_step (l : List Int) (j : Nat) (h : j < l.length) : skipW l j = if isW (nth l j) then j else skipW l (j + 1) := by
  unfold skipW
  rw [show l.length - j = (l.length - (j + 1)) + 1 by omega]
  rfl
theorem skipW_end (l : List Int) (j : Nat) (h : l.length ≤ j) : skipW l j = j := by
  unfold skipW
  rw [show l.length - j = 0 by omega]
  rfl
theorem befW_lt (l : List Int) : ∀ k, befW l k < k
  | 0 => by unfold befW; omega
  | k + 1 => by
    have := befW_lt l k
    unfold befW
    split <;> omega
theorem befW_ge (l : List Int) : ∀ k, -1 ≤ befW l k
  | 0 => by unfold befW; omega
  | k + 1 => by
    have := befW_ge l k
    unfold befW
    split <;> omega
theorem aftN_bd (l : List Int) : ∀ n j, -1 ≤ aftN l n j ∧ (aftN l n j ≠ -1 → (j : Int) ≤ aftN l n j ∧ aftN l n j < j + n)
  | 0, j => ⟨Int.le_refl _, fun h => absurd rfl h⟩
  | n + 1, j => by
    have := aftN_bd l n (j + 1)
    unfold aftN
    split
    · exact ⟨by omega, fun _ => by omega⟩
    · exact ⟨this.1, fun h => by have := this.2 h; omega⟩
theorem aftW_bd (l : List Int) (j : Nat) : -1 ≤ aftW l j ∧ (aftW l j ≠ -1 → (j : Int) ≤ aftW l j ∧ aftW l j < l.length) := by
  have := aftN_bd l (l.length - j) j
  exact ⟨this.1, fun h => by have := this.2 h; unfold aftW at *; omega⟩
theorem skipN_bd (l : List Int) : ∀ n j, j ≤ skipN l n j ∧ skipN l n j ≤ j + n
  | 0, j => ⟨Nat.le_refl _, Nat.le_refl _⟩
  | n + 1, j => by
    have := skipN_bd l n (j + 1)
    unfold skipN
    split <;> omega
theorem skipW_bd (l : List Int) (j : Nat) (h : j ≤ l.length) : j ≤ skipW l j ∧ skipW l j ≤ l.length := by
  have := skipN_bd l (l.length - j) j
  unfold skipW; omega
/-- Up to where a word is cut. -/
def cutTo (l : List Int) (k : Nat) : Nat := if aftW l (skipW l k + 1) = -1 then l.length else (aftW l (skipW l k + 1)).toNat - 1
theorem cutTo_bd (l : List Int) (k : Nat) (h : k ≤ l.length) : k ≤ cutTo l k ∧ cutTo l k ≤ l.length := by
  have h1 := skipW_bd l k h
  have h2 := aftW_bd l (skipW l k + 1)
  unfold cutTo
  split
  · omega
  · rename_i hne
    have := h2.2 hne
    omega
end Go.Proofs.YtoimdbmjpkmkfaaDoor
