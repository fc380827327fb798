/- The contract of spec.Colourless. -/
import Derived.Test.YtmkefndmiagoaaaDoorColourless
namespace Go.Proofs.YtmkefndmiagoaaaDoor
open Go.RowKit
set_option linter.unusedVariables false
set_option linter.unusedSimpArgs false

/-- A row of the call's own, as a text. -/
theorem conv_own (W : World) (B : Nat) (v : Value) (F : List Int) (h : W.ownsRow B 21 1 v F.length (F.map (.int .i32))) :
    (convert 51 9 v).run Tryd.prog W = .ok (.string (runesBytes F)) W := by
  obtain ⟨_, ho⟩ := h
  rcases ho with ⟨rfl, hn⟩ | ⟨g, cap, cur, rfl, hg, hh, hn1, hcm, hcs, htk⟩
  · obtain rfl := List.eq_nil_of_length_eq_zero hn
    exact run_convert_runes_nil (P := Tryd.prog) W 51 9 21 0 0 Tryd.underlying51 Tryd.underlying21 Tryd.underlying9
  · refine conv_runes W g cap F fun j hj => ?_
    rw [World.cell?, hh]
    have := congrArg (·[j]?) htk
    simp [hj] at this
    simpa [nth, hj] using this

def SpecCl (s : ByteArray) (w : World) (e : Ending) (w' : World) : Prop :=
  (∃ F, colF (runes s) = some F ∧ e = .returned (.tuple #[.string (runesBytes F), .bool true]) ∧ Below w.heap.size w w') ∨
  (colF (runes s) = none ∧ e = .returned (.tuple #[.string ⟨#[]⟩, .bool false]) ∧ Below w.heap.size w w')

end Go.Proofs.YtmkefndmiagoaaaDoor
