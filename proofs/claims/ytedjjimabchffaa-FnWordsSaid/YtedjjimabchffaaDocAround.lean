/- The lines around a cursor. -/
import Derived.Test.YtedjjimabchffaaDocWords
import Derived.Test.YtedjjimabchffaaDocCursor
namespace Go.Proofs.Ytedjjimabchffaa
open Go.RowKit
set_option linter.unusedVariables false
set_option linter.unusedSimpArgs false

theorem line_before (b : Nat) (s : ByteArray) (k : Nat) (w : World) (hd : DocAt w b s k) (hs : Small s) (hk : k ≤ s.size) :
    Calls Try.prog 31 #[.pointer (some ⟨b, 0, none⟩)] w fun e w' => e = .returned (.string (lineB (s.extract 0 k))) ∧ Below w.heap.size w w' := by
  have hxs : (s.extract 0 k).size ≤ 1000 := by rw [size_sub s _ _ (by omega)]; have := hs.2; omega
  obtain ⟨x, hx⟩ : ∃ x, x = s.extract 0 k := ⟨_, rfl⟩
  rw [← hx] at hxs ⊢
  have hp := lines_pos x
  have hl := lines_len x
  obtain ⟨L, hL⟩ : ∃ L, L = (lines x).length - 1 := ⟨_, rfl⟩
  obtain ⟨M, hM⟩ : ∃ M, M = (lines x).length := ⟨_, rfl⟩
  have hv : Hid (lineB x = ln (lines x) L) := by rw [Hid, hL]; rfl
  have hLM : (M : Int) - 1 = L := by omega
  have hLL : L < (lines x).length := by omega
  rw [← hM] at hp hl
  have HX := Go.Lib.hid hx
  have HM := Go.Lib.hid hM
  have HLL := Go.Lib.hid hLL
  have hlm : (L : Int) < M := by omega
  clear hx hL hM hLL
  go_enter Try.func31, Try.ntmps31
  go_wp2_with fail
  refine (before_any b s k w hd hs hk).mono ?_
  rw [← HX.out]
  rintro e w1 ⟨rfl, b1⟩
  go_wp2_with fail
  refine (split_nl x w1 hxs).mono ?_
  rintro e w2 ⟨g, cap, rfl, hg, hS, b2⟩
  rw [← HM.out]
  have hc := hS.2 L HLL.out
  have hg2 := hS.1
  have b12 := b1.trans (b2.mono b1.size)
  clear hS b1 b2
  go_wp2_with fail
  go_returns
  exact ⟨by rw [hv.out]; rfl, b12⟩

theorem line_whole (b : Nat) (s : ByteArray) (k : Nat) (w : World) (hd : DocAt w b s k) (hs : Small s) (hk : k ≤ s.size) :
    Calls Try.prog 33 #[.pointer (some ⟨b, 0, none⟩)] w fun e w' => e = .returned (.string (lineB (s.extract 0 k) ++ lineA (s.extract k s.size))) ∧ Below w.heap.size w w' := by
  have h1 : (lineB (s.extract 0 k)).size ≤ 1000 := by
    have := lineB_le (s.extract 0 k)
    rw [size_sub s _ _ (by omega)] at this; have := hs.2; omega
  have h2 : (lineA (s.extract k s.size)).size ≤ 1000 := by
    have := lineA_le (s.extract k s.size)
    rw [size_sub s _ _ (by omega)] at this; have := hs.2; omega
  have HD := Go.Lib.hid hd
  clear hd
  go_enter Try.func33, Try.ntmps33
  go_wp2_with fail
  refine (line_before b s k w HD.out hs hk).mono ?_
  rintro e w1 ⟨rfl, b1⟩
  go_wp2_with fail
  refine (line_after b s k w1 (HD.out.below b1) hs hk).mono ?_
  rintro e w2 ⟨rfl, b2⟩
  have b12 := b1.trans (b2.mono b1.size)
  clear b1 b2
  go_wp2_with fail
  go_returns
  exact ⟨rfl, b12⟩

def SomeBoolB (w : World) (e : Ending) (w' : World) : Prop := ∃ b, e = .returned (.bool b) ∧ Below w.heap.size w w'

theorem on_last (b : Nat) (s : ByteArray) (k : Nat) (w : World) (hd : DocAt w b s k) (hs : Small s) (hk : k ≤ s.size) :
    Calls Try.prog 37 #[.pointer (some ⟨b, 0, none⟩)] w fun e w' => e = .returned (.bool ((nl s k : Int) == ((lines s).length : Int) - 1)) ∧ Below w.heap.size w w' := by
  have HD := Go.Lib.hid hd
  clear hd
  have hl := lines_len s
  have hp := lines_pos s
  have hsz := hs.2
  obtain ⟨L, hL⟩ : ∃ L, L = (lines s).length := ⟨_, rfl⟩
  rw [← hL] at hl hp ⊢
  have HL := Go.Lib.hid hL
  clear hL
  go_enter Try.func37, Try.ntmps37
  go_wp2_with fail
  refine (row_any b s k w HD.out hs hk).mono ?_
  rintro e w1 ⟨rfl, b1⟩
  go_wp2_with fail
  refine (line_count b s k w1 (HD.out.below b1) hsz).mono ?_
  rw [← HL.out]
  rintro e w2 ⟨rfl, b2⟩
  have b12 := b1.trans (b2.mono b1.size)
  clear b1 b2
  go_wp2_with fail
  go_returns
  exact ⟨rfl, b12⟩

theorem end_of_line (b : Nat) (s : ByteArray) (k : Nat) (w : World) (hd : DocAt w b s k) (hs : Small s) (hk : k ≤ s.size) :
    Calls Try.prog 38 #[.pointer (some ⟨b, 0, none⟩)] w fun e w' => e = .returned (.int .i64 ((lineA (s.extract k s.size)).size : Nat)) ∧ Below w.heap.size w w' := by
  have h2 : (lineA (s.extract k s.size)).size ≤ 1000 := by
    have := lineA_le (s.extract k s.size)
    rw [size_sub s _ _ (by omega)] at this; have := hs.2; omega
  have ha : IsAscii (lineA (s.extract k s.size)) := lines_ascii _ (hs.1.extract _ _) _ (ln_mem _ _ (by have := lines_pos (s.extract k s.size); omega))
  have HD := Go.Lib.hid hd
  clear hd
  obtain ⟨y, hy⟩ : ∃ y, y = lineA (s.extract k s.size) := ⟨_, rfl⟩
  rw [← hy] at h2 ha ⊢
  have HY := Go.Lib.hid hy
  have hcv := fun w => run_runes (P := Try.prog) w 9 53 21 y Try.underlying9 Try.underlying53 Try.underlying21 (by omega)
  have hl := runes_ascii_length y ha
  rw [hl] at hcv
  clear ha hl hy
  go_enter Try.func38, Try.ntmps38
  go_wp2_with fail
  refine (line_after b s k w HD.out hs hk).mono ?_
  rw [← HY.out]
  rintro e w1 ⟨rfl, b1⟩
  go_wp2_with fail
  go_returns
  exact ⟨rfl, (b1.alloc b1.size _).drew⟩
end Go.Proofs.Ytedjjimabchffaa
