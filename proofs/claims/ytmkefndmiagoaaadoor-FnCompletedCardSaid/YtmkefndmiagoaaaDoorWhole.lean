/- The contracts of spec.Whole (a text of which it says true is UTF-8). -/
import Derived.Test.YtmkefndmiagoaaaDoorTexts
namespace Go.Proofs.YtmkefndmiagoaaaDoor
open Go.RowKit
set_option linter.unusedVariables false
set_option linter.unusedSimpArgs false

def WholePost (s : ByteArray) (w : World) (e : Ending) (w' : World) : Prop := ∃ b, e = .returned (.bool b) ∧ (b = true → Valid s) ∧ Below w.heap.size w w'

/-- A list's text at a place; the empty one beyond. -/
def txt (ss : List ByteArray) (k : Nat) : ByteArray := ss.getD k ByteArray.empty
theorem txt_mem (ss : List ByteArray) (k : Nat) (h : k < ss.length) : txt ss k ∈ ss := by simp [txt, h]
theorem mem_txt (ss : List ByteArray) (s : ByteArray) (h : s ∈ ss) : ∃ k, k < ss.length ∧ s = txt ss k := by
  obtain ⟨k, hk, rfl⟩ := List.getElem_of_mem h
  exact ⟨k, hk, by simp [txt, hk]⟩

/-- What the walks are told of a slice of strings: nothing in it, or its cells up to its length. -/
def IsStrs (w : World) (a : Option Addr) (ss : List ByteArray) : Prop :=
  ss = [] ∨ ∃ b off, a = some ⟨b, off, none⟩ ∧ b < w.heap.size ∧ ∀ i, i < ss.length → w.cell? ⟨b, off + i, none⟩ = some (.string (txt ss i))

theorem IsStrs.below {w w' : World} {a : Option Addr} {ss : List ByteArray} (h : IsStrs w a ss) (hb : Below w.heap.size w w') : IsStrs w' a ss := by
  rcases h with h | ⟨b, off, ha, hl, hc⟩
  · exact .inl h
  · exact .inr ⟨b, off, ha, Nat.lt_of_lt_of_le hl hb.size, fun i hi => (hb.cell (p := ⟨b, off + i, none⟩) hl).trans (hc i hi)⟩

def AllPost (ss : List ByteArray) (w : World) (e : Ending) (w' : World) : Prop := ∃ b, e = .returned (.bool b) ∧ (b = true → ∀ s ∈ ss, s.size ≤ 300 ∧ Valid s) ∧ Below w.heap.size w w'

end Go.Proofs.YtmkefndmiagoaaaDoor
