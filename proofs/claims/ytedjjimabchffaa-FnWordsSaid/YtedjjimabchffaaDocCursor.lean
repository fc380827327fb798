/- The line behind a cursor, its row and column. -/
import Derived.Test.YtedjjimabchffaaDocTexts
import Derived.Test.YtedjjimabchffaaDocFind
namespace Go.Proofs.Ytedjjimabchffaa
open Go.RowKit
set_option linter.unusedVariables false
set_option linter.unusedSimpArgs false

/-- The last line of what stands ahead of a cursor; the first one of what stands behind it. -/
def lineB (x : ByteArray) : ByteArray := ln (lines x) ((lines x).length - 1)
def lineA (y : ByteArray) : ByteArray := ln (lines y) 0

theorem ln_size (s : ByteArray) (i : Nat) (h : i < (lines s).length) : (ln (lines s) i).size ≤ s.size := by
  have := line_fits s i h
  rw [← ln_eq (lines s) i h] at this
  omega
theorem lines_pos (s : ByteArray) : 1 ≤ (lines s).length := List.length_pos_iff.2 (lines_ne s)
theorem lineB_le (x : ByteArray) : (lineB x).size ≤ x.size := ln_size x _ (by have := lines_pos x; omega)
theorem lineA_le (x : ByteArray) : (lineA x).size ≤ x.size := ln_size x _ (by have := lines_pos x; omega)

theorem line_after (b : Nat) (s : ByteArray) (k : Nat) (w : World) (hd : DocAt w b s k) (hs : Small s) (hk : k ≤ s.size) :
    Calls Try.prog 32 #[.pointer (some ⟨b, 0, none⟩)] w fun e w' => e = .returned (.string (lineA (s.extract k s.size))) ∧ Below w.heap.size w w' := by
  have hxs : (s.extract k s.size).size ≤ 1000 := by rw [size_sub s _ _ (by omega)]; have := hs.2; omega
  obtain ⟨x, hx⟩ : ∃ x, x = s.extract k s.size := ⟨_, rfl⟩
  rw [← hx] at hxs ⊢
  have hp := lines_pos x
  have hl := lines_len x
  obtain ⟨M, hM⟩ : ∃ M, M = (lines x).length := ⟨_, rfl⟩
  have hLL : 0 < (lines x).length := by omega
  rw [← hM] at hp hl
  have HX := Go.Lib.hid hx
  have HM := Go.Lib.hid hM
  have HLL := Go.Lib.hid hLL
  have hlm : (0 : Int) < M := by omega
  clear hx hM hLL
  go_enter Try.func32, Try.ntmps32
  go_wp2_with fail
  refine (after_any b s k w hd hs hk).mono ?_
  rw [← HX.out]
  rintro e w1 ⟨rfl, b1⟩
  go_wp2_with fail
  refine (split_nl x w1 hxs).mono ?_
  rintro e w2 ⟨g, cap, rfl, hg, hS, b2⟩
  rw [← HM.out]
  have hc := hS.2 0 HLL.out
  have hg2 := hS.1
  have b12 := b1.trans (b2.mono b1.size)
  clear hS b1 b2
  go_wp2_with fail
  go_returns
  exact ⟨rfl, b12⟩

theorem row_any (b : Nat) (s : ByteArray) (k : Nat) (w : World) (hd : DocAt w b s k) (hs : Small s) (hk : k ≤ s.size) :
    Calls Try.prog 34 #[.pointer (some ⟨b, 0, none⟩)] w fun e w' => e = .returned (.int .i64 (nl s k : Nat)) ∧ Below w.heap.size w w' := by
  obtain ⟨c0, c1, hb⟩ := hd
  go_enter Try.func34, Try.ntmps34
  go_wp2_with fail
  refine (find_start b s k k w ⟨c0, c1, hb⟩ hs.2 hk).mono ?_
  rintro e w1 ⟨rfl, b1⟩
  go_wp2_with fail
  go_returns
  exact ⟨rfl, b1⟩

theorem col_any (b : Nat) (s : ByteArray) (k : Nat) (w : World) (hd : DocAt w b s k) (hs : Small s) (hk : k ≤ s.size) :
    Calls Try.prog 35 #[.pointer (some ⟨b, 0, none⟩)] w fun e w' => e = .returned (.int .i64 ((k - startOf (lines s) (nl s k) : Nat) : Nat)) ∧ Below w.heap.size w w' := by
  have HD := Go.Lib.hid hd
  clear hd
  have hle := (start_le s k hk).2
  have hsz := hs.2
  obtain ⟨S, hS⟩ : ∃ S, S = startOf (lines s) (nl s k) := ⟨_, rfl⟩
  rw [← hS] at hle ⊢
  have HS := Go.Lib.hid hS
  have hks : (((k - S : Nat)) : Int) = (k : Int) - S := by omega
  rw [hks]
  clear hS hks
  go_enter Try.func35, Try.ntmps35
  have c1 := HD.out.2.1
  have hb := HD.out.2.2
  go_wp2_with fail
  refine (find_start b s k k w HD.out hsz hk).mono ?_
  rw [← HS.out]
  rintro e w1 ⟨rfl, b1⟩
  have c1' := (HD.out.below b1).2.1
  have hb' := (HD.out.below b1).2.2
  clear c1 hb
  go_wp2_with fail
  go_returns
  exact ⟨rfl, b1⟩
end Go.Proofs.Ytedjjimabchffaa
