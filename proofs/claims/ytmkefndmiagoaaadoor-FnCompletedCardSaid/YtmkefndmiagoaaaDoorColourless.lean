/- The contracts of impl.Colourless and spec.Colourless. -/
import Derived.Test.YtmkefndmiagoaaaDoorColorFilter
import Derived.Test.YtmkefndmiagoaaaDoorCaught
import Derived.Test.YtmkefndmiagoaaaDoorUtf
namespace Go.Proofs.YtmkefndmiagoaaaDoor
open Go.RowKit
set_option linter.unusedVariables false
set_option linter.unusedSimpArgs false

/-- A slice of code points as a text. -/
theorem conv_runes (W : World) (B c : Nat) (F : List Int) (h : ∀ j, j < F.length → W.cell? ⟨B, j, none⟩ = some (.int .i32 (nth F j))) :
    (convert 51 9 (.slice (some ⟨B, 0, none⟩) F.length c)).run Tryd.prog W = .ok (.string (runesBytes F)) W := by
  have ha : ∀ j, (⟨B, 0, none⟩ : Addr).add j = ⟨B, j, none⟩ := fun j => by
    unfold Addr.add
    by_cases e : j = 0
    · rw [if_pos e, e]
    · rw [if_neg e, Nat.zero_add]
  have := run_convert_runes (P := Tryd.prog) W 51 9 21 ⟨B, 0, none⟩ F.length c F (Nat.le_refl _) Tryd.underlying51 Tryd.underlying21 Tryd.underlying9 (fun j hj => by rw [ha]; exact h j hj)
  simpa using this

/-- The text without its sequences, where there is one. -/
def ClPost (s : ByteArray) (p1 : Addr) (w : World) (e : Ending) (w' : World) : Prop :=
  (∃ F W', colF (runes s) = some F ∧ e = .returned (.tuple #[]) ∧ Below w.heap.size w W' ∧ w' = W'.setCell p1 (.string (runesBytes F))) ∨
  (colF (runes s) = none ∧ ∃ u v, e = .panicked [{ v := .iface u v, recovered := false }] ∧ Below w.heap.size w w')

/-- What impl.Colourless tells. -/
def ImplCl (s : ByteArray) (w : World) (e : Ending) (w' : World) : Prop :=
  (∃ F, colF (runes s) = some F ∧ e = .returned (.tuple #[.string (runesBytes F), .bool true]) ∧ Below w.heap.size w w') ∨
  (colF (runes s) = none ∧ e = .returned (.tuple #[.string ⟨#[]⟩, .bool false]) ∧ Below w.heap.size w w')

end Go.Proofs.YtmkefndmiagoaaaDoor
