/- (*bytes.Buffer).Bytes at an offset. -/
import Derived.Test.YtbibokkclejapaaDoorIndGrow2
namespace Go.Proofs.YtbibokkclejapaaDoor
open Go.RowKit
set_option linter.unusedVariables false
set_option linter.unusedSimpArgs false

theorem all_run (A : Option Addr) (n cap : Nat) : ∀ w, (Instr.slice 51 (.slice A n cap) (some (.int .i64 0)) none none).run Tryd.prog w = .ok (.slice A n cap) w := fun w => by
  have he : Tryd.prog.elem 51 = 5 := by simp [Program.elem, Tryd.underlying51]
  rw [run_slice_l w 51 _ n cap (by rw [he]; exact Tryd.underlying51) .i64 0 (by omega) (by omega), sizeB]
  cases A <;> simp [Result.andThen, sliced, Addr.add]
theorem buf_bytes (b q : Nat) (A : Option Addr) (cap : Nat) (l : List UInt8) (w : World) (h : BA w b q A cap l) : Calls Tryd.prog 70 #[.pointer (some ⟨b, q, none⟩)] w fun e w' => e = .returned (.slice A l.length cap) ∧ ∃ n, w' = w.drewN n := by
  have c0 := h.c0
  have c1 := h.c1
  have hz := lt_of_cell h.c0
  have hall := all_run A l.length cap
  clear h
  generalize l.length = n at c0 hall
  go_enter Tryd.func70, Tryd.ntmps70
  go_wp2_with fail
  go_quiet (fail)
  go_wp2_with fail
  go_returns
  exact ⟨rfl, _, rfl⟩
end Go.Proofs.YtbibokkclejapaaDoor
