/- The walk of laws.FnPlaces: places one behind the other have rows and columns one behind the other. -/
import Derived.Test.YtedjjimabchffaaDocPos
namespace Go.Proofs.Ytedjjimabchffaa
open Go.RowKit
set_option linter.unusedVariables false
set_option linter.unusedSimpArgs false

namespace fnPlaces
set_option maxHeartbeats 1000000 in
theorem walk (s : ByteArray) (at_ : Int) (w : World) (hs : s.size ≤ maxLen) (hat : (Lit.int .i64 at_).wf = true) :
    Calls Try.prog 5 #[.agg #[.string s, .int .i64 at_]] w fun e w' => e = .returned (.bool true) ∧ Below w.heap.size w w' := by
  unfold maxLen at hs
  clear hat
  by_cases h1 : 2147483647 < (s.size : Int)
  · go_enter Try.func5, Try.ntmps5
    go_wp2_with fail
    refine (fits2_no s at_ _ h1 (by omega)).mono ?_
    rintro e w1 ⟨rfl, rfl⟩
    go_wp2_with fail
    go_returns
    exact ⟨rfl, by go_grown⟩
  by_cases h2 : Right s at_
  · obtain ⟨i, rfl⟩ := Int.eq_ofNat_of_zero_le h2.2.1
    have hi : i ≤ s.size := by have := h2.2.2; omega
    have hsz : s.size ≤ 1000 := h2.1.2
    have H2 := Go.Lib.hid h2
    clear h2
    by_cases h3 : i = s.size
    · have h3' : ((i : Int) == (s.size : Int)) = true := by simp; omega
      have H3 := Go.Lib.hid h3
      clear h3
      go_enter Try.func5, Try.ntmps5
      go_wp2_with fail
      refine (fits2_yes s _ _ (by omega)).mono ?_
      rintro e w1 ⟨rfl, rfl⟩
      go_wp2_with fail
      refine (right_yes s _ _ H2.out).mono ?_
      rintro e w1 ⟨rfl, rfl⟩
      go_wp2_with fail
      go_returns
      exact ⟨rfl, by go_grown⟩
    · have hlt : i < s.size := by omega
      have h3' : ((i : Int) == (s.size : Int)) = false := by simp; omega
      clear h3
      have HB := Go.Lib.hid (byteAt_lt s i hlt)
      by_cases h4 : isNl (byteAt s i) = true
      · have h4' : ((s[i].toNat : Int) == 10) = true := by rw [← HB.out]; exact h4
        have hn : nl s (i + 1) = nl s i + 1 := by rw [nl, if_pos h4]
        have hst := start_next s i hlt h4
        obtain ⟨N, hN⟩ : ∃ N, N = nl s i := ⟨_, rfl⟩
        obtain ⟨C, hC⟩ : ∃ C, C = ((i : Int) - (startOf (lines s) (nl s i) : Nat)) := ⟨_, rfl⟩
        rw [← hN] at hn hst
        have HN := Go.Lib.hid hN
        have HC := Go.Lib.hid hC
        have HNN := Go.Lib.hid hn
        have HST := Go.Lib.hid hst
        have hbn : N ≤ 1000 := by
          have := (start_le s i (by omega)).1
          have := lines_len s
          omega
        clear hN hC hn hst h4
        go_enter Try.func5, Try.ntmps5
        go_wp2_with fail
        refine (fits2_yes s _ _ (by omega)).mono ?_
        rintro e w1 ⟨rfl, rfl⟩
        go_wp2_with fail
        refine (right_yes s _ _ H2.out).mono ?_
        rintro e w1 ⟨rfl, rfl⟩
        go_wp2_with fail
        refine (row_column s i _ hsz (by omega)).mono ?_
        rw [← HC.out, ← HN.out]
        rintro e w1 ⟨rfl, b1⟩
        have hc0 : w1.cell? ⟨w.heap.size, 0, none⟩ = some (.string s) := (b1.cell (p := ⟨w.heap.size, 0, none⟩) (by simp <;> omega)).trans (by simp [go_sem])
        have hc1 : w1.cell? ⟨w.heap.size, 1, none⟩ = some (.int .i64 (i : Nat)) := (b1.cell (p := ⟨w.heap.size, 1, none⟩) (by simp <;> omega)).trans (by simp [go_sem])
        have hbb : Below w.heap.size w w1 ∧ w.heap.size < w1.heap.size := by
          refine ⟨((((Below.refl w.heap.size w).alloc (Nat.le_refl _) _).alloc (by simp) _).alloc (by simp; omega) _).trans (b1.mono (by simp; omega)), ?_⟩
          have := b1.size; simp at this; omega
        have HBB := Go.Lib.hid hbb
        clear hbb b1
        go_wp2_with fail
        refine (row_column s (i + 1) _ hsz (by omega)).mono ?_
        rw [HNN.out, HST.out, show ((i + 1 : Nat) : Int) - ((i + 1 : Nat) : Int) = 0 by omega]
        rintro e w2 ⟨rfl, b2⟩
        have hd0 : w2.cell? ⟨w.heap.size, 0, none⟩ = some (.string s) := (b2.cell (p := ⟨w.heap.size, 0, none⟩) HBB.out.2).trans hc0
        have hd1 : w2.cell? ⟨w.heap.size, 1, none⟩ = some (.int .i64 (i : Nat)) := (b2.cell (p := ⟨w.heap.size, 1, none⟩) HBB.out.2).trans hc1
        clear hc0 hc1
        have hb2 : Below w.heap.size w w2 := HBB.out.1.trans (b2.mono (Nat.le_of_lt HBB.out.2))
        clear b2
        have hi0 : (0 : Int) ≤ i := by omega
        have hi1 : (i : Int) < s.size := by omega
        have hNe : (((N + 1 : Nat) : Int) == (N : Int) + 1) = true := by simp
        go_wp2_with fail
        go_returns
        exact ⟨rfl, hb2⟩
      · have h4' : ((s[i].toNat : Int) == 10) = false := by rw [← HB.out]; simpa [isNl] using h4
        have hn : nl s (i + 1) = nl s i := by rw [nl, if_neg h4, Nat.add_zero]
        obtain ⟨N, hN⟩ : ∃ N, N = nl s i := ⟨_, rfl⟩
        obtain ⟨C, hC⟩ : ∃ C, C = ((i : Int) - (startOf (lines s) (nl s i) : Nat)) := ⟨_, rfl⟩
        rw [← hN] at hn
        have HN := Go.Lib.hid hN
        have HC := Go.Lib.hid hC
        have HNN := Go.Lib.hid hn
        have HST : Hid (((i + 1 : Nat) : Int) - (startOf (lines s) N : Nat) = C + 1) := by
          rw [hC, ← hN, Hid]; omega
        have hcb : 0 ≤ C ∧ C ≤ 1000 := by
          have := (start_le s i (by omega)).2
          omega
        have hcb1 := hcb.1
        have hcb2 := hcb.2
        have hbn : N ≤ 1000 := by
          have := (start_le s i (by omega)).1
          have := lines_len s
          omega
        clear hN hC hn h4 hcb
        go_enter Try.func5, Try.ntmps5
        go_wp2_with fail
        refine (fits2_yes s _ _ (by omega)).mono ?_
        rintro e w1 ⟨rfl, rfl⟩
        go_wp2_with fail
        refine (right_yes s _ _ H2.out).mono ?_
        rintro e w1 ⟨rfl, rfl⟩
        go_wp2_with fail
        refine (row_column s i _ hsz (by omega)).mono ?_
        rw [← HC.out, ← HN.out]
        rintro e w1 ⟨rfl, b1⟩
        have hc0 : w1.cell? ⟨w.heap.size, 0, none⟩ = some (.string s) := (b1.cell (p := ⟨w.heap.size, 0, none⟩) (by simp <;> omega)).trans (by simp [go_sem])
        have hc1 : w1.cell? ⟨w.heap.size, 1, none⟩ = some (.int .i64 (i : Nat)) := (b1.cell (p := ⟨w.heap.size, 1, none⟩) (by simp <;> omega)).trans (by simp [go_sem])
        have hbb : Below w.heap.size w w1 ∧ w.heap.size < w1.heap.size := by
          refine ⟨((((Below.refl w.heap.size w).alloc (Nat.le_refl _) _).alloc (by simp) _).alloc (by simp; omega) _).trans (b1.mono (by simp; omega)), ?_⟩
          have := b1.size; simp at this; omega
        have HBB := Go.Lib.hid hbb
        clear hbb b1
        go_wp2_with fail
        refine (row_column s (i + 1) _ hsz (by omega)).mono ?_
        rw [HNN.out, HST.out]
        rintro e w2 ⟨rfl, b2⟩
        have hd0 : w2.cell? ⟨w.heap.size, 0, none⟩ = some (.string s) := (b2.cell (p := ⟨w.heap.size, 0, none⟩) HBB.out.2).trans hc0
        have hd1 : w2.cell? ⟨w.heap.size, 1, none⟩ = some (.int .i64 (i : Nat)) := (b2.cell (p := ⟨w.heap.size, 1, none⟩) HBB.out.2).trans hc1
        clear hc0 hc1
        have hb2 : Below w.heap.size w w2 := HBB.out.1.trans (b2.mono (Nat.le_of_lt HBB.out.2))
        clear b2
        have hi0 : (0 : Int) ≤ i := by omega
        have hi1 : (i : Int) < s.size := by omega
        go_wp2_with fail
        go_returns
        exact ⟨rfl, hb2⟩
  · have H2 := Go.Lib.hid h2
    clear h2
    go_enter Try.func5, Try.ntmps5
    go_wp2_with fail
    refine (fits2_yes s _ _ (by omega)).mono ?_
    rintro e w1 ⟨rfl, rfl⟩
    go_wp2_with fail
    refine (right_no s _ _ hs H2.out).mono ?_
    rintro e w1 ⟨rfl, rfl⟩
    go_wp2_with fail
    go_returns
    exact ⟨rfl, by go_grown⟩
end fnPlaces
end Go.Proofs.Ytedjjimabchffaa
