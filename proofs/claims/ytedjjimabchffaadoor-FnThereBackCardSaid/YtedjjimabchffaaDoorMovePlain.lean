/- A cursor that moves in its line: plain facts. -/
import Derived.Test.YtedjjimabchffaaDoorBufMove
namespace Go.Proofs.YtedjjimabchffaaDoor
open Go.RowKit
set_option linter.unusedVariables false
set_option linter.unusedSimpArgs false

theorem nl_same (s : ByteArray) (i : Nat) : ∀ m, (∀ j, i ≤ j → j < i + m → isNl (byteAt s j) = false) → nl s (i + m) = nl s i
  | 0, _ => rfl
  | m + 1, h => by
    rw [show i + (m + 1) = (i + m) + 1 by omega, nl, if_neg (by simp [h (i + m) (by omega) (by omega)]), Nat.add_zero]
    exact nl_same s i m fun j h1 h2 => h j h1 (by omega)

theorem nl_same_rev (s : ByteArray) (i : Nat) : ∀ m, nl s (i + m) = nl s i → ∀ j, i ≤ j → j < i + m → isNl (byteAt s j) = false
  | 0, _, j, h1, h2 => by omega
  | m + 1, h, j, h1, h2 => by
    rw [show i + (m + 1) = (i + m) + 1 by omega, nl] at h
    have hm := nl_mono s (i + m) i (by omega)
    cases hb : isNl (byteAt s (i + m)) with
    | true => rw [if_pos hb] at h; omega
    | false =>
      rw [if_neg (by simp [hb])] at h
      by_cases e : j = i + m
      · rw [e]; exact hb
      · exact nl_same_rev s i m (by omega) j h1 (by omega)

theorem lineA_form (y : ByteArray) : (fst y isNl < 0 ∧ lineA y = y) ∨ ∃ m : Nat, m < y.size ∧ fst y isNl = m ∧ lineA y = y.extract 0 m := by
  unfold lineA ln
  rcases fst_spec y isNl with ⟨h, _⟩ | ⟨m, h1, h2, _⟩
  · refine .inl ⟨by omega, ?_⟩
    rw [lines_one y (by omega)]; rfl
  · refine .inr ⟨m, h1, h2, ?_⟩
    rw [lines_more y m h2]; rfl

theorem lineA_plain (y : ByteArray) : (∀ j, j < (lineA y).size → isNl (byteAt y j) = false) ∧ ((lineA y).size < y.size → isNl (byteAt y (lineA y).size) = true) := by
  rcases lineA_form y with ⟨h, e⟩ | ⟨m, h1, h2, e⟩
  · rw [e]
    rcases fst_spec y isNl with ⟨_, h3⟩ | ⟨m, h1, h2, _⟩
    · exact ⟨h3, fun h => by omega⟩
    · omega
  · have hs : (lineA y).size = m := by rw [e, ByteArray.size_extract]; omega
    rw [hs]
    rcases fst_spec y isNl with ⟨h, _⟩ | ⟨k, g1, g2, g3, g4⟩
    · omega
    · obtain rfl : k = m := by omega
      exact ⟨g4, fun _ => g3⟩

/-- To the right, and back. -/
theorem right_back (s : ByteArray) (k m : Nat) (hk : k ≤ s.size) (hm : m ≤ (lineA (s.extract k s.size)).size) : m ≤ colOf s (k + m) := by
  have h1 := (lineA_plain (s.extract k s.size)).1
  have hx : (s.extract k s.size).size = s.size - k := by rw [ByteArray.size_extract]; omega
  have hl := lineA_le (s.extract k s.size)
  have e : nl s (k + m) = nl s k := nl_same s k m fun j j1 j2 => by
    have := h1 (j - k) (by omega)
    rw [byteAt_extract s k (j - k) s.size (by omega), show k + (j - k) = j by omega] at this
    exact this
  have := (start_le s k hk).2
  unfold colOf
  rw [e]; omega

/-- To the left, and back. -/
theorem left_back (s : ByteArray) (k m : Nat) (hk : k ≤ s.size) (hm : m ≤ colOf s k) : m ≤ (lineA (s.extract (k - m) s.size)).size := by
  have hc := colOf_le s k
  obtain ⟨h1, h2⟩ := start_le s k hk
  obtain ⟨_, _, h3⟩ := lines_law s
  have e : nl s (k - m + m) = nl s (k - m) := by
    have a := (h3 (nl s k) (k - m) h1 (by omega)).1 (by unfold colOf at hm; omega)
    have b := nl_mono s k (k - m) (by omega)
    rw [show k - m + m = k by omega]; omega
  have hn := nl_same_rev s (k - m) m e
  have hx : (s.extract (k - m) s.size).size = s.size - (k - m) := by rw [ByteArray.size_extract]; omega
  by_cases h : m ≤ (lineA (s.extract (k - m) s.size)).size
  · exact h
  · have hl := (lineA_plain (s.extract (k - m) s.size)).2 (by omega)
    rw [byteAt_extract s (k - m) _ s.size (by omega)] at hl
    rw [hn _ (by omega) (by omega)] at hl
    cases hl
end Go.Proofs.YtedjjimabchffaaDoor
