/- The contract of readline's Runes.Index: the first place of a code point, -1 if there is none. -/
import Derived.Test.YtmkefndmiagoaaaDoorTexts
namespace Go.Proofs.YtmkefndmiagoaaaDoor
open Go.RowKit
set_option linter.unusedVariables false
set_option linter.unusedSimpArgs false

/-- A slice of code points in memory: where something stands in it, its cells. -/
def RuneRow (w : World) (A : Option Addr) (zs : List Int) : Prop := ∀ j, j < zs.length → ∃ g o, A = some ⟨g, o, none⟩ ∧ w.cell? ⟨g, o + j, none⟩ = some (.int .i32 (nth zs j))

theorem RuneRow.drew {w : World} {A : Option Addr} {zs : List Int} (h : RuneRow w A zs) : RuneRow w.drew A zs := h

theorem RuneRow.of {w : World} {g o : Nat} {zs : List Int} (h : ∀ j, j < zs.length → w.cell? ⟨g, o + j, none⟩ = some (.int .i32 (nth zs j))) : RuneRow w (some ⟨g, o, none⟩) zs := fun j hj => ⟨g, o, rfl, h j hj⟩

/-- A slice's tail: its address is known where something stands in it. -/
theorem run_cut {P : Program} (t e : TypeId) (ht : P.underlying t = some (.slice e)) (hi : ∀ w, (sizeOf (P.elem t)).run P w = .ok 1 w) (g o n cap l : Nat) (l' : Int) (hl' : l' = l) (hl : l ≤ n) (hc : n ≤ cap) :
    ∃ A, (∀ w, (Instr.slice t (.slice (some ⟨g, o, none⟩) n cap) (some (.int .i64 l')) none none).run P w = .ok (.slice A (n - l) (cap - l)) w) ∧ (l < cap → A = some ⟨g, o + l, none⟩) := by
  subst hl'
  refine ⟨if cap = l then some ⟨g, o, none⟩ else some ⟨g, o + l, none⟩, fun w => ?_, fun h => by rw [if_neg (by omega)]⟩
  have he : P.elem t = e := by simp [Program.elem, ht]
  rw [run_slice_l w t _ n cap (by rw [he]; exact ht) .i64 l (by omega) (by omega), hi]
  simp only [Result.andThen, sliced, Nat.mul_one, Int.toNat_natCast]
  by_cases h : cap = l
  · rw [if_pos h, if_pos h]
  · rw [if_neg h, if_neg h]
    simp only [Option.map_some, Addr.add]
    by_cases h0 : l = 0
    · rw [if_pos h0, h0]; rfl
    · rw [if_neg h0]

theorem sizeI32 (w : World) : (sizeOf (Tryd.prog.elem 51)).run Tryd.prog w = .ok 1 w := by kernel_rfl

end Go.Proofs.YtmkefndmiagoaaaDoor
