/- (*bytes.Buffer).grow of a buffer that has no row yet, by at most 64 bytes. -/
import Derived.Test.YtbibokkclejapaaDoorIndGrow
import Derived.Laws.MakeOwn
namespace Go.Proofs.YtbibokkclejapaaDoor
open Go.RowKit
set_option linter.unusedVariables false
set_option linter.unusedSimpArgs false

theorem len_at (b q : Nat) (A : Option Addr) (m cap : Nat) (W : World) (c0 : W.cell? ⟨b, q, none⟩ = some (.slice A m cap)) (c1 : W.cell? ⟨b, q + 1, none⟩ = some (.int .i64 0)) (hm : m ≤ 1000000) :
    Calls Tryd.prog 80 #[.pointer (some ⟨b, q, none⟩)] W fun e w' => e = .returned (.int .i64 (m : Nat)) ∧ ∃ n, w' = W.drewN n := by
  have hz := lt_of_cell c0
  go_enter Tryd.func80, Tryd.ntmps80
  go_wp2_with fail
  go_quiet (fail)
  go_wp2_with fail
  go_returns
  exact ⟨rfl, _, rfl⟩

set_option maxRecDepth 100000 in
set_option maxHeartbeats 800000 in
theorem grow_small (b q n : Nat) (w : World) (c0 : w.cell? ⟨b, q, none⟩ = some (.slice none 0 0)) (c1 : w.cell? ⟨b, q + 1, none⟩ = some (.int .i64 0)) (f : ∀ j, w.frozen? ⟨b, j, none⟩ = false) (hn : 1 ≤ n) (h64 : n ≤ 64) :
    Calls Tryd.prog 61 #[.pointer (some ⟨b, q, none⟩), .int .i64 (n : Nat)] w (GrowPost b q n [] w) := by
  have hz := lt_of_cell c0
  obtain ⟨i0, hi, hz0, hz1, hz2⟩ := info_parts (show (Tryd.prog.info? 5).map (fun i => (i.zero, i.size, i.bytes)) = some (some (.int .u8 0), 1, 1) by kernel_rfl)
  obtain ⟨Z, hZ⟩ : ∃ Z, Z = madeCells (Value.int .u8 0).cells ((64 : Int).toNat * i0.size) := ⟨_, rfl⟩
  have hZs : Z.size = 64 := by rw [hZ, size_madeCells, hz1]; rfl
  have hmk : ∀ W : World, (Instr.makeSlice 51 (.int .i64 (n : Nat)) (.int .i64 64)).run Tryd.prog W = .ok (.slice (some ⟨W.heap.size, 0, none⟩) n 64) (W.alloc (.cells Z 5)) := fun W => by
    have := run_make (P := Tryd.prog) W 51 5 i0 (.int .u8 0) Tryd.underlying51 hi hz0 .i64 .i64 (n : Nat) 64 (by omega) (by omega) (by rw [hz2]; decide) (by decide)
    rw [hZ]
    simpa using this
  have HLEN := Go.Lib.hid (len_at b q none 0 0 w c0 c1 (Nat.zero_le _))
  have HZS := Go.Lib.hid hZs
  clear hZ hi hz0 hz1 hz2 hZs
  have hnil : ∀ W, (binOp .eql 51 (.slice none 0 0) (.slice none 0 0)).run Tryd.prog W = .ok (.bool true) W := fun W => by kernel_rfl
  go_enter Tryd.func61, Tryd.ntmps61
  go_wp2_with fail
  refine HLEN.out.mono ?_
  rintro e w1 ⟨rfl, nq, hw1⟩
  have hb1 : Below w.heap.size w w1 := by rw [hw1]; exact below_drewN (Below.refl _ _) nq
  have HK1 : Hid (KeptB b q w w1) := .of hb1 hz
  replace c0 := (hb1.cell (p := ⟨b, q, none⟩) hz).trans c0
  replace c1 := (hb1.cell (p := ⟨b, q + 1, none⟩) hz).trans c1
  have fq : w1.frozen? ⟨b, q, none⟩ = false := (hb1.frozen (p := ⟨b, q, none⟩) hz).trans (f q)
  have hz1 : b < w1.heap.size := Nat.lt_of_lt_of_le hz hb1.size
  have HSZ := Go.Lib.hid hb1.size
  clear hw1 hb1 f
  have htn := Go.Lib.hid (try_none b q none 0 0 n w1 c0 (Nat.le_refl _) (by omega) (by unfold maxLen; omega))
  go_wp2_with fail
  refine htn.out.mono ?_
  rintro e w2 ⟨rfl, rfl⟩
  go_wp2_with fail
  go_returns
  obtain ⟨X, hX⟩ : ∃ X, X = w1.setCell ⟨b, q, none⟩ (.slice (some ⟨w1.heap.size, 0, none⟩) n 64) := ⟨_, rfl⟩
  have hXs : X.heap.size = w1.heap.size := by rw [hX]; simp [World.setCell]
  have x0 : X.cell? ⟨b, q, none⟩ = some (.slice (some ⟨w1.heap.size, 0, none⟩) n 64) := by rw [hX]; exact World.cell?_setCell_same' _ _ _ (by rw [c0]; rfl)
  have hKX : KeptB b q w X := by rw [hX]; exact HK1.out.set _
  have ba : Below X.heap.size X (X.alloc (.cells Z 5)) := (Below.refl _ _).alloc (Nat.le_refl _) _
  have hne : w1.heap.size ≠ b := by omega
  rw [← hX]
  refine ⟨w1.heap.size, 64, Z, rfl, ?_, ?_, HZS.out, by show 0 + n ≤ 64; omega, by decide, by simp [Lib.byteCells], hne, HSZ.out, hKX.trans (.of ba (by rw [hXs]; exact hz1))⟩
  · have h1 := (ba.cell (p := ⟨b, q, none⟩) (by dsimp only; rw [hXs]; exact hz1)).trans x0
    rw [h1]
    show _ = some (Value.slice (some ⟨w1.heap.size, 0, none⟩) (0 + n) 64)
    rw [Nat.zero_add]
  · rw [← hXs]
    exact heap_alloc_new X _
end Go.Proofs.YtbibokkclejapaaDoor
