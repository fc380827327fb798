/- A bytes.Buffer that lies at an offset within a block, with a frame that tells all other blocks kept: Len, tryGrowByReslice, Bytes. -/
import Derived.Test.YtbibokkclejapaaDoorIndGuard
import Derived.Test.YtbibokkclejapaaDoorQuietTail
import Derived.Lib.ByteType
namespace Go.Proofs.YtbibokkclejapaaDoor
open Go.RowKit
set_option linter.unusedVariables false
set_option linter.unusedSimpArgs false

/-- A row of bytes in memory of its own, or none. -/
def BRowO (w : World) (b : Nat) (A : Option Addr) (cap : Nat) (l : List UInt8) : Prop :=
  (A = none ∧ cap = 0 ∧ l = []) ∨ ∃ g cur, A = some ⟨g, 0, none⟩ ∧ w.heap[g]? = some (.cells cur 5 (0, 0)) ∧ cur.size = cap ∧ l.length ≤ cap ∧ cap ≤ maxLen ∧ cur.toList.take l.length = Lib.byteCells l ∧ g ≠ b
/-- A buffer's three cells: what has been written, nothing read. -/
structure BA (w : World) (b q : Nat) (A : Option Addr) (cap : Nat) (l : List UInt8) : Prop where
  c0 : w.cell? ⟨b, q, none⟩ = some (.slice A l.length cap)
  c1 : w.cell? ⟨b, q + 1, none⟩ = some (.int .i64 0)
  c2 : ∃ lr, w.cell? ⟨b, q + 2, none⟩ = some (.int .i8 lr)
  f : ∀ j, w.frozen? ⟨b, j, none⟩ = false
  row : BRowO w b A cap l
theorem BRowO.kept {w w' : World} {b : Nat} {A : Option Addr} {cap : Nat} {l : List UInt8} (h : BRowO w b A cap l) (hk : ∀ k, k < w.heap.size → k ≠ b → w'.heap[k]? = w.heap[k]?) : BRowO w' b A cap l := by
  rcases h with h | ⟨g, cur, ha, hg, h1, h2, h3, h4, h5⟩
  · exact .inl h
  · exact .inr ⟨g, cur, ha, (hk g (Array.getElem?_eq_some_iff.1 hg).1 h5).trans hg, h1, h2, h3, h4, h5⟩
theorem BA.below {w w' : World} {b q : Nat} {A : Option Addr} {cap : Nat} {l : List UInt8} (h : BA w b q A cap l) (hb : Below w.heap.size w w') : BA w' b q A cap l := by
  have hz := lt_of_cell h.c0
  obtain ⟨lr, h2⟩ := h.c2
  exact ⟨(hb.cell (p := ⟨b, q, none⟩) hz).trans h.c0, (hb.cell (p := ⟨b, q + 1, none⟩) hz).trans h.c1, ⟨lr, (hb.cell (p := ⟨b, q + 2, none⟩) hz).trans h2⟩, fun j => (hb.frozen (p := ⟨b, j, none⟩) hz).trans (h.f j), h.row.kept fun k hk _ => hb.block k hk⟩
theorem BA.le {w : World} {b q : Nat} {A : Option Addr} {cap : Nat} {l : List UInt8} (h : BA w b q A cap l) : l.length ≤ cap := by
  rcases h.row with ⟨_, h2, h3⟩ | ⟨g, cur, _, _, _, h2, _⟩
  · rw [h3]; exact Nat.zero_le _
  · exact h2

theorem BA.cap {w : World} {b q : Nat} {A : Option Addr} {cap : Nat} {l : List UInt8} (h : BA w b q A cap l) : cap ≤ maxLen := by
  rcases h.row with ⟨_, h2, _⟩ | ⟨g, cur, _, _, _, _, h2, _⟩
  · rw [h2]; exact Nat.zero_le _
  · exact h2

theorem buf_len (b q : Nat) (A : Option Addr) (cap : Nat) (l : List UInt8) (w : World) (h : BA w b q A cap l) : Calls Tryd.prog 80 #[.pointer (some ⟨b, q, none⟩)] w fun e w' => e = .returned (.int .i64 (l.length : Nat)) ∧ ∃ n, w' = w.drewN n := by
  have c0 := h.c0
  have c1 := h.c1
  have hz := lt_of_cell h.c0
  have hle := h.le
  have hcm := h.cap
  unfold maxLen at hcm
  clear h
  generalize l.length = n at c0 hle
  go_enter Tryd.func80, Tryd.ntmps80
  go_wp2_with fail
  go_quiet (fail)
  go_wp2_with fail
  go_returns
  exact ⟨rfl, _, rfl⟩

/-- tryGrowByReslice: where there is room the length grows, and nothing else. -/
theorem try_room (b q : Nat) (A : Option Addr) (cap m n : Nat) (w : World) (c0 : w.cell? ⟨b, q, none⟩ = some (.slice A m cap)) (f0 : w.frozen? ⟨b, q, none⟩ = false) (hn : m + n ≤ cap) (hc : cap ≤ maxLen) :
    Calls Tryd.prog 60 #[.pointer (some ⟨b, q, none⟩), .int .i64 (n : Nat)] w fun e w' => e = .returned (.tuple #[.int .i64 (m : Nat), .bool true]) ∧ w' = w.setCell ⟨b, q, none⟩ (.slice A (m + n) cap) := by
  have hz := lt_of_cell c0
  unfold maxLen at hc
  go_enter Tryd.func60, Tryd.ntmps60
  go_wp2_with fail
  go_returns
  exact ⟨rfl, rfl⟩
theorem try_none (b q : Nat) (A : Option Addr) (cap m n : Nat) (w : World) (c0 : w.cell? ⟨b, q, none⟩ = some (.slice A m cap)) (hmc : m ≤ cap) (hn : cap < m + n) (hc : cap ≤ maxLen) :
    Calls Tryd.prog 60 #[.pointer (some ⟨b, q, none⟩), .int .i64 (n : Nat)] w fun e w' => e = .returned (.tuple #[.int .i64 0, .bool false]) ∧ w = w' := by
  have hz := lt_of_cell c0
  unfold maxLen at hc
  go_enter Tryd.func60, Tryd.ntmps60
  go_wp2_with fail
  go_returns
  exact ⟨rfl, rfl⟩
end Go.Proofs.YtbibokkclejapaaDoor
