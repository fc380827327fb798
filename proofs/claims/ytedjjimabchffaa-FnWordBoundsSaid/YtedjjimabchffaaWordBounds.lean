/- The walk of laws.FnWordBounds: a word has no blank in it; a blank, or an end of the text, stands on either side. -/
import Derived.Test.YtedjjimabchffaaAroundImpl
namespace Go.Proofs.Ytedjjimabchffaa
open Go.RowKit
set_option linter.unusedVariables false
set_option linter.unusedSimpArgs false

theorem byteAt_append_left (a b : ByteArray) (i : Nat) (h : i < a.size) : byteAt (a ++ b) i = byteAt a i := by
  unfold byteAt
  rw [ByteArray.toList_data_append, List.getElem?_append_left (by simpa using h)]
theorem byteAt_append_right (a b : ByteArray) (i : Nat) : byteAt (a ++ b) (a.size + i) = byteAt b i := by
  unfold byteAt
  have : a.data.toList.length = a.size := by simp
  rw [ByteArray.toList_data_append, List.getElem?_append_right (by omega), this, Nat.add_sub_cancel_left]

theorem extract_join (s : ByteArray) (n k m : Nat) (h1 : n ≤ k) (h2 : k ≤ m) (h3 : m ≤ s.size) : s.extract n k ++ s.extract k m = s.extract n m := by
  apply ba_ext
  rw [ByteArray.toList_data_append, extract_list, extract_list, extract_list]
  have e : (s.data.toList.drop n) = (s.data.toList.drop n).take (k - n) ++ s.data.toList.drop k := by
    conv => lhs; rw [← List.take_append_drop (k - n) (s.data.toList.drop n)]
    rw [List.drop_drop, show n + (k - n) = k by omega]
  have hl : ((s.data.toList.drop n).take (k - n)).length = k - n := by
    have : s.data.toList.length = s.size := by simp
    simp; omega
  conv => rhs; rw [e]
  rw [List.take_append, hl, List.take_of_length_le (l := (s.data.toList.drop n).take (k - n)) (by omega), show m - n - (k - n) = m - k by omega]

theorem extract_extract' (s : ByteArray) (i j a b : Nat) (h : i + b ≤ j) : (s.extract i j).extract a b = s.extract (i + a) (i + b) := by
  apply ba_ext
  rw [extract_list, extract_list, extract_list, List.drop_take, List.take_take, List.drop_drop]
  congr 1; omega

/-- What the words next to a cursor are. -/
theorem bounds_law (s : ByteArray) (k : Nat) (hk : k ≤ s.size) :
    (s.extract 0 k).extract (wStart (s.extract 0 k)) k = s.extract (wStart (s.extract 0 k)) k ∧ (s.extract k s.size).extract 0 (wEnd (s.extract k s.size)) = s.extract k (k + wEnd (s.extract k s.size)) ∧
    wStart (s.extract 0 k) ≤ k ∧ k + wEnd (s.extract k s.size) ≤ s.size ∧ (∀ j, wStart (s.extract 0 k) ≤ j → j < k + wEnd (s.extract k s.size) → byteAt s j ≠ 32) ∧
    (wStart (s.extract 0 k) = 0 ∨ byteAt s (wStart (s.extract 0 k) - 1) = 32) ∧ (k + wEnd (s.extract k s.size) = s.size ∨ byteAt s (k + wEnd (s.extract k s.size)) = 32) := by
  have hx : (s.extract 0 k).size = k := by rw [size_sub s _ _ hk]; omega
  have hy : (s.extract k s.size).size = s.size - k := by rw [size_sub s _ _ (Nat.le_refl _)]
  have h1 := wStart_le (s.extract 0 k)
  have h2 := wEnd_le (s.extract k s.size)
  have nb : ∀ c : Int, sp c = false → c ≠ 32 := fun c h e => by subst e; simp [sp, isB] at h
  have ib : ∀ c : Int, sp c = true → c = 32 := fun c h => by
    rcases isB_yes h with ⟨_, h⟩ | ⟨h, _⟩
    · exact h.symm
    · cases h
  have bx : ∀ j, j < k → byteAt (s.extract 0 k) j = byteAt s j := fun j hj => by rw [byteAt_extract s 0 j k (by omega), Nat.zero_add]
  have by_ : ∀ j, k + j < s.size → byteAt (s.extract k s.size) j = byteAt s (k + j) := fun j hj => byteAt_extract s k j s.size hj
  have L : (wStart (s.extract 0 k) = 0 ∨ byteAt s (wStart (s.extract 0 k) - 1) = 32) ∧ ∀ j, wStart (s.extract 0 k) ≤ j → j < k → byteAt s j ≠ 32 := by
    rcases lstB_spec (s.extract 0 k) sp (s.extract 0 k).size with ⟨h, hj⟩ | ⟨m, g1, g2, g3, g4⟩
    · have e : wStart (s.extract 0 k) = 0 := by unfold wStart lst; rw [h]; rfl
      rw [e]
      exact ⟨.inl rfl, fun j _ hjk => by rw [← bx j hjk]; exact nb _ (hj j (by omega))⟩
    · have e : wStart (s.extract 0 k) = m + 1 := by unfold wStart lst; rw [g2]; omega
      rw [e]
      refine ⟨.inr ?_, fun j h3 h4 => by rw [← bx j h4]; exact nb _ (g4 j (by omega) (by omega))⟩
      rw [Nat.add_sub_cancel, ← bx m (by omega)]; exact ib _ g3
  have R : (k + wEnd (s.extract k s.size) = s.size ∨ byteAt s (k + wEnd (s.extract k s.size)) = 32) ∧ ∀ j, j < wEnd (s.extract k s.size) → byteAt s (k + j) ≠ 32 := by
    rcases fst_spec (s.extract k s.size) sp with ⟨h, hj⟩ | ⟨m, g1, g2, g3, g4⟩
    · have e : wEnd (s.extract k s.size) = (s.extract k s.size).size := by unfold wEnd; rw [if_pos h]
      rw [e, hy]
      exact ⟨.inl (by omega), fun j hjk => by rw [← by_ j (by omega)]; exact nb _ (hj j (by omega))⟩
    · have e : wEnd (s.extract k s.size) = m := by unfold wEnd; rw [if_neg (by omega), g2]; rfl
      rw [e]
      refine ⟨.inr ?_, fun j h3 => by rw [← by_ j (by omega)]; exact nb _ (g4 j h3)⟩
      rw [← by_ m (by omega)]; exact ib _ g3
  refine ⟨?_, ?_, by omega, by omega, fun j h3 h4 => ?_, L.1, R.1⟩
  · rw [extract_extract' s 0 k _ k (by omega)]; simp
  · rw [extract_extract' s k s.size 0 _ (by omega)]; simp
  · by_cases e : j < k
    · exact L.2 j h3 e
    · have := R.2 (j - k) (by omega)
      rwa [show k + (j - k) = j by omega] at this
end Go.Proofs.Ytedjjimabchffaa
