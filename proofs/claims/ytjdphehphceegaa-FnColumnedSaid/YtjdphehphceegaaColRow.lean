/- Rows of texts that are stored into; goprompt.formatTexts, its first loop. -/
import Derived.Test.YtjdphehphceegaaColRep
import Derived.Test.YtjdphehphceegaaColPad
namespace Go.Proofs.Ytjdphehphceegaa
open Go.RowKit
set_option linter.unusedVariables false
set_option linter.unusedSimpArgs false

/-- A row of texts in a block, from a place on. -/
def StrFn (w : World) (b off n : Nat) (f : Nat → ByteArray) : Prop := b < w.heap.size ∧ ∀ j, j < n → w.cell? ⟨b, off + j, none⟩ = some (.string (f j)) ∧ w.frozen? ⟨b, off + j, none⟩ = false
theorem StrFn.below {w w' : World} {b off n : Nat} {f : Nat → ByteArray} (h : StrFn w b off n f) (hb : Below w.heap.size w w') : StrFn w' b off n f :=
  ⟨Nat.lt_of_lt_of_le h.1 hb.size, fun j hj => ⟨(hb.cell (p := ⟨b, off + j, none⟩) h.1).trans (h.2 j hj).1, (hb.frozen (p := ⟨b, off + j, none⟩) h.1).trans (h.2 j hj).2⟩⟩
theorem StrFn.to {w : World} {b off n : Nat} {f g : Nat → ByteArray} (h : StrFn w b off n f) (e : ∀ j, j < n → f j = g j) : StrFn w b off n g :=
  ⟨h.1, fun j hj => by rw [← e j hj]; exact h.2 j hj⟩
theorem StrFn.set {w : World} {b off n : Nat} {f : Nat → ByteArray} (h : StrFn w b off n f) (k : Nat) (hk : k < n) (y : ByteArray) : StrFn (w.setCell ⟨b, off + k, none⟩ (.string y)) b off n (fun j => if j = k then y else f j) := by
  refine ⟨by simpa [World.setCell] using h.1, fun j hj => ⟨?_, by rw [World.frozen?_setCell]; exact (h.2 j hj).2⟩⟩
  show _ = some (Value.string (if j = k then y else f j))
  by_cases e : j = k
  · subst e
    rw [World.cell?_setCell_same' _ _ _ (by rw [(h.2 j hj).1]; rfl), if_pos rfl]
  · rw [if_neg e, World.cell?_setCell_other _ _ _ _ (by simp [e, Ne.symm e] <;> omega)]
    exact (h.2 j hj).1
theorem StrFn.other {w : World} {b b' off n o : Nat} {f : Nat → ByteArray} {v : Value} (h : StrFn w b off n f) (e : b' ≠ b) : StrFn (w.setCell ⟨b', o, none⟩ v) b off n f := by
  refine ⟨by simpa [World.setCell] using h.1, fun j hj => ⟨?_, by rw [World.frozen?_setCell]; exact (h.2 j hj).2⟩⟩
  rw [World.cell?_setCell_other _ _ _ _ (by simp [e, Ne.symm e])]
  exact (h.2 j hj).1
theorem below_set {B : Nat} {w w' : World} (h : Below B w w') (b o : Nat) (v : Value) (hb : B ≤ b) : Below B w (w'.setCell ⟨b, o, none⟩ v) := by
  refine ⟨h.os, h.tape, h.output, by have := h.size; simpa [World.setCell] using this, fun i hi => ?_⟩
  rw [Below.heap_setCell _ _ _ _ (by show i ≠ b; omega)]
  exact h.block i hi

/-- How wide the widest of the first k texts is. -/
def mx (X : Nat → ByteArray) : Nat → Nat
  | 0 => 0
  | k + 1 => max (mx X k) (clean (X k)).size
theorem mx_le (X : Nat → ByteArray) (n : Nat) (h : ∀ j, j < n → (X j).size ≤ 1000) : ∀ k, k ≤ n → mx X k ≤ 1000
  | 0, _ => Nat.zero_le _
  | k + 1, hk => by
    rw [mx]
    have h1 := mx_le X n h k (by omega)
    have h2 := dropB_len 13 (dropB 10 (X k))
    have h3 := dropB_len 10 (X k)
    have h4 := h k (by omega)
    unfold clean
    omega
end Go.Proofs.Ytjdphehphceegaa
