/- (*bytes.Buffer).Write of one byte, or none, with a frame that tells what stands. -/
import Derived.Test.YtbibokkclejapaaDoorIndWrite3
import Derived.Test.YtbibokkclejapaaDoorIndGrow2
namespace Go.Proofs.YtbibokkclejapaaDoor
open Go.RowKit
set_option linter.unusedVariables false
set_option linter.unusedSimpArgs false

/-- What a write into the buffer at ⟨b, q⟩ leaves alone: all other blocks but the buffer's row, and the block's cells but the buffer's. -/
structure Fr (b q : Nat) (A A' : Option Addr) (w w' : World) : Prop where
  os : w'.os = w.os
  tape : w'.tape = w.tape
  output : w'.output = w.output
  size : w.heap.size ≤ w'.heap.size
  rest : ∀ k, k < w.heap.size → k ≠ b → A ≠ some ⟨k, 0, none⟩ → w'.heap[k]? = w.heap[k]?
  cells : ∀ o, o ≠ q → o ≠ q + 1 → o ≠ q + 2 → w'.cell? ⟨b, o, none⟩ = w.cell? ⟨b, o, none⟩
  fz : ∀ j, w'.frozen? ⟨b, j, none⟩ = w.frozen? ⟨b, j, none⟩
  row : A' = A ∨ ∃ g, A' = some ⟨g, 0, none⟩ ∧ w.heap.size ≤ g ∧ g < w'.heap.size

def PutPost (b q : Nat) (A : Option Addr) (l : List UInt8) (z : UInt8) (w : World) (e : Ending) (w' : World) : Prop :=
  e = .returned (.tuple #[.int .i64 1, .nilIface]) ∧ ∃ A' cap', BA w' b q A' cap' (l ++ [z]) ∧ Fr b q A A' w w'

theorem buf_put (b q : Nat) (A : Option Addr) (cap c : Nat) (l : List UInt8) (z : UInt8) (a : Addr) (w : World) (h : BA w b q A cap l) (hl : l.length ≤ 900000) (hab : a.block ≠ b) (ha : w.cell? a = some (.int .u8 (z.toNat : Nat))) :
    Calls Tryd.prog 69 #[.pointer (some ⟨b, q, none⟩), .slice (some a) 1 c] w (PutPost b q A l z w) := by
  have hz := lt_of_cell h.c0
  obtain ⟨lr, c2⟩ := h.c2
  have hle := h.le
  have hcm := h.cap
  unfold maxLen at hcm
  by_cases hroom : l.length + 1 ≤ cap
  · rcases h.row with ⟨_, h2, _⟩ | ⟨g, cur, rfl, hg, hcs, _, _, htk, hgb⟩
    · omega
    · refine (write_room b q g l.length cap c cur (z.toNat : Nat) a lr w h.c0 c2 h.f hg hcs (by omega) (by omega) hgb hroom hab ha).mono ?_
      rintro e w' ⟨rfl, rfl⟩
      refine ⟨rfl, some ⟨g, 0, none⟩, cap, ?_, ?_⟩
      all_goals
        obtain ⟨X, hX⟩ : ∃ X, X = (cur.toList.take l.length ++ [Value.int .u8 (z.toNat : Nat)] ++ cur.toList.drop (l.length + 1)).toArray := ⟨_, rfl⟩
        obtain ⟨W2, hW2⟩ : ∃ W, W = (w.setCell ⟨b, q + 2, none⟩ (.int .i8 0)).setCell ⟨b, q, none⟩ (.slice (some ⟨g, 0, none⟩) (l.length + 1) cap) := ⟨_, rfl⟩
        rw [← hX, ← hW2]
        have hcell : ∀ o, o ≠ q → o ≠ q + 2 → W2.cell? ⟨b, o, none⟩ = w.cell? ⟨b, o, none⟩ := fun o h1 h2 => by
          rw [hW2, World.cell?_setCell_other _ _ _ _ (by intro e; injection e with _ e2; omega), World.cell?_setCell_other _ _ _ _ (by intro e; injection e with _ e2; omega)]
        have h0 : W2.cell? ⟨b, q, none⟩ = some (.slice (some ⟨g, 0, none⟩) (l.length + 1) cap) := by
          rw [hW2]
          refine World.cell?_setCell_same' _ _ _ ?_
          rw [World.cell?_setCell_other _ _ _ _ (by intro e; injection e with _ e2; omega), h.c0]
          rfl
        have h2 : W2.cell? ⟨b, q + 2, none⟩ = some (.int .i8 0) := by
          rw [hW2, World.cell?_setCell_other _ _ _ _ (by intro e; injection e with _ e2; omega)]
          exact World.cell?_setCell_same' _ _ _ (by rw [c2]; rfl)
        have hfz : ∀ j, W2.frozen? ⟨b, j, none⟩ = w.frozen? ⟨b, j, none⟩ := fun j => by rw [hW2, World.frozen?_setCell, World.frozen?_setCell]
        have hoth : ∀ k, k ≠ b → W2.heap[k]? = w.heap[k]? := fun k hk => by rw [hW2, Below.heap_setCell _ _ _ _ (by exact hk), Below.heap_setCell _ _ _ _ (by exact hk)]
        have hS : W2.heap.size = w.heap.size := by rw [hW2]; simp [World.setCell]
        have hset : ∀ k, k ≠ g → (W2.setRow g X).heap[k]? = W2.heap[k]? := fun k hk => setRow_other W2 g k X hk
        have hb := hset b (fun e => hgb e.symm)
      · refine ⟨?_, ?_, ⟨0, ?_⟩, fun j => ?_, .inr ⟨g, X, rfl, setRow_heap W2 g cur X _ _ ((hoth g hgb).trans hg), ?_, ?_, h.cap, ?_, hgb⟩⟩
        · rw [World.cell?_of_block hb, h0, List.length_append]; rfl
        · rw [World.cell?_of_block hb, hcell _ (by omega) (by omega)]; exact h.c1
        · rw [World.cell?_of_block hb, h2]
        · rw [World.frozen?_of_block hb, hfz]; exact h.f j
        · rw [hX]
          simp [hcs]
          omega
        · rw [List.length_append]; exact hroom
        · have hcl : cur.toList.length = cap := by rw [Array.length_toList]; exact hcs
          have h1 : (List.take l.length cur.toList).length = l.length := by rw [List.length_take, hcl]; omega
          rw [hX, List.length_append, List.length_singleton]
          rw [List.append_assoc, List.take_append, h1, List.take_of_length_le (by omega), show l.length + 1 - l.length = 1 by omega, htk]
          simp [Lib.byteCells]
      · refine ⟨by rw [hW2]; rfl, by rw [hW2]; rfl, by rw [hW2]; rfl, by rw [setRow_size, hS]; exact Nat.le_refl _, fun k _ h1 h2 => (hset k (fun e => h2 (by rw [e]))).trans (hoth k h1), fun o h1 _ h2 => (World.cell?_of_block hb).trans (hcell o h1 h2), fun j => (World.frozen?_of_block hb).trans (hfz j), .inl rfl⟩
  · have hcl : cap = l.length := by omega
    obtain ⟨W1, hW1⟩ : ∃ W, W = w.setCell ⟨b, q + 2, none⟩ (.int .i8 0) := ⟨_, rfl⟩
    have hS : W1.heap.size = w.heap.size := by rw [hW1]; simp [World.setCell]
    have k0 : W1.cell? ⟨b, q, none⟩ = some (.slice A l.length cap) := by rw [hW1]; exact (World.cell?_setCell_other _ _ _ _ (by intro e; injection e with _ e2; omega)).trans h.c0
    have k1 : W1.cell? ⟨b, q + 1, none⟩ = some (.int .i64 0) := by rw [hW1]; exact (World.cell?_setCell_other _ _ _ _ (by intro e; injection e with _ e2; omega)).trans h.c1
    have k2 : W1.cell? ⟨b, q + 2, none⟩ = some (.int .i8 0) := by rw [hW1]; exact World.cell?_setCell_same' _ _ _ (by rw [c2]; rfl)
    have kf : ∀ j, W1.frozen? ⟨b, j, none⟩ = false := fun j => by rw [hW1, World.frozen?_setCell]; exact h.f j
    have kh : ∀ k, k ≠ b → W1.heap[k]? = w.heap[k]? := fun k hk => by rw [hW1]; exact Below.heap_setCell _ _ _ _ (by exact hk)
    have hgr : Calls Tryd.prog 61 #[.pointer (some ⟨b, q, none⟩), .int .i64 1] W1 (GrowPost b q 1 l W1) := by
      rcases h.row with ⟨rfl, h2, rfl⟩ | ⟨g, cur, rfl, hg, hcs, _, _, htk, hgb⟩
      · rw [h2] at k0
        exact grow_small b q 1 W1 k0 k1 kf (by omega) (by omega)
      · exact grow_row b q g 1 cap cur l W1 k0 k1 kf ((kh g hgb).trans hg) hcs hle (by omega) htk hgb (by omega) (by omega) (by omega)
    rw [hW1] at hgr
    refine (write_full b q l.length cap c A l (z.toNat : Nat) a lr w rfl h.c0 c2 h.f hle (by omega) (by omega) hab ha hgr).mono ?_
    rintro e w' ⟨g, cap', cur, rfl, p0, pg, ps, pr, pm, pt, pgb, pge, pk⟩
    rw [← hW1] at pk
    refine ⟨rfl, some ⟨g, 0, none⟩, cap', ⟨?_, ?_, ⟨0, ?_⟩, fun j => ?_, .inr ⟨g, cur, rfl, pg, ps, ?_, pm, ?_, pgb⟩⟩, ?_⟩
    · rw [p0, List.length_append]; rfl
    · exact (pk.cells (q + 1) (by omega)).trans k1
    · exact (pk.cells (q + 2) (by omega)).trans k2
    · exact (pk.fz j).trans (kf j)
    · rw [List.length_append]; exact pr
    · rw [List.length_append, List.length_singleton, pt]
      simp [Lib.byteCells]
    · refine ⟨by rw [pk.os, hW1]; rfl, by rw [pk.tape, hW1]; rfl, by rw [pk.output, hW1]; rfl, by rw [← hS]; exact pk.size, fun k h1 h2 _ => (pk.rest k (by rw [hS]; exact h1) h2).trans (kh k h2), fun o h1 _ h2 => (pk.cells o h1).trans ?_, fun j => (pk.fz j).trans (by rw [hW1, World.frozen?_setCell]), .inr ⟨g, rfl, pge, (Array.getElem?_eq_some_iff.1 pg).1⟩⟩
      rw [hW1]
      exact World.cell?_setCell_other _ _ _ _ (by intro e; injection e with _ e2; omega)

theorem buf_none (b q : Nat) (A : Option Addr) (cap : Nat) (l : List UInt8) (w : World) (h : BA w b q A cap l) (hl : l.length ≤ 900000) :
    Calls Tryd.prog 69 #[.pointer (some ⟨b, q, none⟩), .slice none 0 0] w fun e w' => e = .returned (.tuple #[.int .i64 0, .nilIface]) ∧ BA w' b q A cap l ∧ Fr b q A A w w' := by
  obtain ⟨lr, c2⟩ := h.c2
  have hcm := h.cap
  unfold maxLen at hcm
  refine (write_none b q l.length cap A lr w h.c0 c2 h.f (by omega) h.le hcm).mono ?_
  rintro e w' ⟨rfl, hw⟩
  have hcell : ∀ o, o ≠ q → o ≠ q + 2 → w'.cell? ⟨b, o, none⟩ = w.cell? ⟨b, o, none⟩ := fun o h1 h2 => by
    rw [hw, World.cell?_setCell_other _ _ _ _ (by intro e; injection e with _ e2; omega), World.cell?_setCell_other _ _ _ _ (by intro e; injection e with _ e2; omega)]
  have h0 : w'.cell? ⟨b, q, none⟩ = some (.slice A l.length cap) := by
    rw [hw]
    refine World.cell?_setCell_same' _ _ _ ?_
    rw [World.cell?_setCell_other _ _ _ _ (by intro e; injection e with _ e2; omega), h.c0]
    rfl
  have h2 : w'.cell? ⟨b, q + 2, none⟩ = some (.int .i8 0) := by
    rw [hw, World.cell?_setCell_other _ _ _ _ (by intro e; injection e with _ e2; omega)]
    exact World.cell?_setCell_same' _ _ _ (by rw [c2]; rfl)
  have hfz : ∀ j, w'.frozen? ⟨b, j, none⟩ = w.frozen? ⟨b, j, none⟩ := fun j => by rw [hw, World.frozen?_setCell, World.frozen?_setCell]
  have hoth : ∀ k, k ≠ b → w'.heap[k]? = w.heap[k]? := fun k hk => by rw [hw, Below.heap_setCell _ _ _ _ (by exact hk), Below.heap_setCell _ _ _ _ (by exact hk)]
  have hS : w'.heap.size = w.heap.size := by rw [hw]; simp [World.setCell]
  refine ⟨rfl, ⟨h0, (hcell _ (by omega) (by omega)).trans h.c1, ⟨0, h2⟩, fun j => (hfz j).trans (h.f j), h.row.kept fun k _ hk => hoth k hk⟩, ⟨by rw [hw]; rfl, by rw [hw]; rfl, by rw [hw]; rfl, by omega, fun k _ h1 _ => hoth k h1, fun o h1 _ h2 => hcell o h1 h2, hfz, .inl rfl⟩⟩
end Go.Proofs.YtbibokkclejapaaDoor
