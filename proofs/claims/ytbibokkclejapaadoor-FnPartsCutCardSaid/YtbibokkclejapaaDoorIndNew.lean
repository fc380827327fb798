/- indent.NewWriter: the writer and the one of sequences that it has. -/
import Derived.Test.YtbibokkclejapaaDoorIndBytes
namespace Go.Proofs.YtbibokkclejapaaDoor
open Go.RowKit
set_option linter.unusedVariables false
set_option linter.unusedSimpArgs false

/-- A writer that sets in, with nothing written; the function it has for blanks may be any. -/
def iwCells (n : Int) (fn : Value) (ab : Nat) : Array Value := #[.int .u64 n, fn, .pointer (some ⟨ab, 0, none⟩), .slice none 0 0, .int .i64 0, .int .i8 0, .bool false, .bool false]
/-- A writer of sequences that hands on to the buffer within a writer. -/
def awCells (wb : Nat) : Array Value := #[.iface 58 (.pointer (some ⟨wb, 3, none⟩)), .bool false, .slice none 0 0, .int .i64 0, .int .i8 0, .slice none 0 0, .int .i64 0, .int .i8 0, .bool false, .slice none 0 0]
set_option maxHeartbeats 800000 in
theorem newWriter_any (n : Int) (w : World) : Calls Tryd.prog 32 #[.int .u64 n, .nilFunc] w fun e w' => e = .returned (.pointer (some ⟨w.heap.size, 0, none⟩)) ∧ w' = (w.alloc (.cells (iwCells n .nilFunc (w.heap.size + 1)) 71)).alloc (.cells (awCells w.heap.size) 75) := by
  go_enter Tryd.func32, Tryd.ntmps32
  go_wp2_with fail
  go_returns
  exact ⟨rfl, rfl⟩
end Go.Proofs.YtbibokkclejapaaDoor
