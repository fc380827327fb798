/- The walk of laws.FnSwapTwice: the two signs ahead of a cursor, exchanged twice, stand as they stood. -/
import Derived.Test.YtedjjimabchffaaDoorBufEdited
namespace Go.Proofs.YtedjjimabchffaaDoor
open Go.RowKit
set_option linter.unusedVariables false
set_option linter.unusedSimpArgs false

/-- Two signs ahead of a place, and what stands around them. -/
theorem parts_two (s : ByteArray) (k : Nat) (h : 2 ≤ k) (hk : k ≤ s.size) : ∃ P x y Q, s.data.toList = P ++ x :: y :: Q ∧ P.length + 2 = k := by
  have hl : s.data.toList.length = s.size := by simp
  refine ⟨s.data.toList.take (k - 2), s.data.toList[k - 2]'(by omega), s.data.toList[k - 1]'(by omega), s.data.toList.drop k, ?_, by simp; omega⟩
  have e1 : s.data.toList.drop (k - 2) = s.data.toList[k - 2]'(by omega) :: s.data.toList.drop (k - 1) := by
    rw [List.drop_eq_getElem_cons (by omega), show k - 2 + 1 = k - 1 by omega]
  have e2 : s.data.toList.drop (k - 1) = s.data.toList[k - 1]'(by omega) :: s.data.toList.drop k := by
    rw [List.drop_eq_getElem_cons (by omega), show k - 1 + 1 = k by omega]
  rw [← e2, ← e1, List.take_append_drop]

theorem swapped_list (s : ByteArray) (k : Nat) (P : List UInt8) (x y : UInt8) (Q : List UInt8) (h : s.data.toList = P ++ x :: y :: Q) (hk : P.length + 2 = k) : (swapped s k).data.toList = P ++ y :: x :: Q := by
  subst hk
  have hl : s.size = P.length + 2 + Q.length := by
    have : s.data.toList.length = s.size := by simp
    rw [← this, h]; simp; omega
  rw [swapped, if_pos (by omega)]
  rw [ByteArray.data_append, ByteArray.data_append, ByteArray.data_append, Array.toList_append, Array.toList_append, Array.toList_append, extract_list, extract_list, extract_list, extract_list, h, hl]
  have d1 : (P ++ x :: y :: Q).drop (P.length + 2 - 1) = y :: Q := by
    rw [show P.length + 2 - 1 = P.length + 1 by omega, List.drop_append, List.drop_of_length_le (by omega), show P.length + 1 - P.length = 1 by omega]; rfl
  have d2 : (P ++ x :: y :: Q).drop (P.length + 2 - 2) = x :: y :: Q := by
    rw [show P.length + 2 - 2 = P.length by omega, List.drop_append, List.drop_of_length_le (by omega), Nat.sub_self]; rfl
  have d3 : (P ++ x :: y :: Q).drop (P.length + 2) = Q := by
    rw [List.drop_append, List.drop_of_length_le (by omega), show P.length + 2 - P.length = 2 by omega]; rfl
  rw [d1, d2, d3, List.drop_zero]
  rw [show P.length + 2 - 2 - 0 = P.length by omega, List.take_append_of_le_length (Nat.le_refl _), List.take_of_length_le (Nat.le_refl _)]
  rw [show P.length + 2 - (P.length + 2 - 1) = 1 by omega, show P.length + 2 - 1 - (P.length + 2 - 2) = 1 by omega, show P.length + 2 + Q.length - (P.length + 2) = Q.length by omega, List.take_of_length_le (Nat.le_refl _)]
  simp

theorem swapped_back (s : ByteArray) (k : Nat) (hk : k ≤ s.size) : swapped (swapped s k) k = s ∧ (swapped s k).size = s.size ∧ (IsAscii s → IsAscii (swapped s k)) := by
  by_cases h : 2 ≤ k
  · obtain ⟨P, x, y, Q, e, hp⟩ := parts_two s k h hk
    have h1 := swapped_list s k P x y Q e hp
    have h2 := swapped_list (swapped s k) k P y x Q h1 hp
    refine ⟨ba_ext (by rw [h2, e]), ?_, fun ha => ?_⟩
    · have l1 : (swapped s k).data.toList.length = (swapped s k).size := by simp
      have l2 : s.data.toList.length = s.size := by simp
      rw [← l1, ← l2, h1, e]; simp
    · intro b hb
      have := ha b
      simp only [e] at this
      simp only [h1] at hb
      refine this ?_
      simp at hb ⊢
      rcases hb with h | h | h | h
      · exact .inl h
      · exact .inr (.inr (.inl h))
      · exact .inr (.inl h)
      · exact .inr (.inr (.inr h))
  · have e : swapped s k = s := by rw [swapped, if_neg h]
    rw [e, e]
    exact ⟨rfl, rfl, fun h => h⟩

namespace fnSwapTwice
set_option maxRecDepth 100000 in
set_option maxHeartbeats 4000000 in
theorem core (s : ByteArray) (k : Nat) (w : World) (hs : Small s) (hk : k ≤ s.size) :
    Calls Tryd.prog 6 #[.agg #[.string s, .int .i64 (k : Nat)]] w fun e w' => e = .returned (.bool true) ∧ Below w.heap.size w w' := by
  have hsz := hs.2
  have hR : Right s (k : Int) := ⟨hs, by omega, by omega⟩
  have HR := Go.Lib.hid hR
  obtain ⟨h1, h2, h3⟩ := swapped_back s k hk
  have S1 := step_swap s k hs hk 0 ⟨#[]⟩ false
  have S2 := step_swap (swapped s k) k ⟨h3 hs.1, by omega⟩ (by omega) 0 ⟨#[]⟩ false
  rw [h1] at S2
  have hx2 : Small (swapped s k) := ⟨h3 hs.1, by omega⟩
  generalize swapped s k = x at S1 S2 h2 hx2
  have h2' : (x.size : Int) = s.size := by omega
  have hlen : ((x.size : Int) == (s.size : Int)) = true := by simp; omega
  have E1 := Go.Lib.hid (fun (A : Option Addr) (b : Nat) (w : World) (hA : A = some ⟨b, 0, none⟩ ∧ b < w.heap.size ∧ EdsAt w b 0 [⟨11, 0, ⟨#[]⟩, false⟩]) => edited_any b 0 A 1 [⟨11, 0, ⟨#[]⟩, false⟩] [⟨#[]⟩] s x k k w hs hk (.inr hA) (.cons S1 (.nil _ _)) (by simp))
  have E2 := Go.Lib.hid (fun (A : Option Addr) (b : Nat) (w : World) (hA : A = some ⟨b, 0, none⟩ ∧ b < w.heap.size ∧ EdsAt w b 0 [⟨11, 0, ⟨#[]⟩, false⟩]) => edited_any b 0 A 1 [⟨11, 0, ⟨#[]⟩, false⟩] [⟨#[]⟩] x s k k w hx2 (by omega) (.inr hA) (.cons S2 (.nil _ _)) (by simp))
  clear hR h1 h2 h3 S1 S2 hx2 hs h2'
  go_enter Tryd.func6, Tryd.ntmps6
  go_wp2_with fail
  refine (fits2_yes s _ _ (by omega)).mono ?_
  rintro e w1 ⟨rfl, rfl⟩
  go_wp2_with fail
  refine (right_yes s _ _ HR.out).mono ?_
  rintro e w1 ⟨rfl, rfl⟩
  go_wp2_with fail
  refine (E1.out _ (w.heap.size + 1 + 1 + 1) _ ⟨rfl, by simp, ?_⟩).mono ?_
  · have := eds_one (((w.alloc (.cells #[.string s, .int .i64 (k : Nat)] 23)).alloc (.cells #[.string s, .int .i64 (k : Nat)] 23)).alloc (.cells #[.string s, .int .i64 (k : Nat)] 23)) ⟨11, 0, ⟨#[]⟩, false⟩ 33
    simpa using this
  rintro e w1 ⟨v, he, hown, b1⟩
  obtain ⟨hl, g, cap, hv, hg, hS⟩ := strs_of_owns hown (by simp)
  subst hv
  subst he
  have D0 : Hid (DocAt w1 w.heap.size s k) := ⟨(b1.cell (p := ⟨w.heap.size, 0, none⟩) (by simp <;> omega)).trans (by simp [go_sem]), (b1.cell (p := ⟨w.heap.size, 1, none⟩) (by simp <;> omega)).trans (by simp [go_sem]), by have := b1.size; simp at this; omega⟩
  have B1 : Hid (Below w.heap.size w w1) := (((((Below.refl w.heap.size w).alloc (Nat.le_refl _) _).alloc (by simp) _).alloc (by simp; omega) _).alloc (by simp; omega) _).trans (b1.mono (by simp; omega))
  clear b1 hown hl hS hg
  obtain ⟨d0, d1, z1⟩ := D0.out
  go_wp2_with fail
  refine (E2.out _ (w1.heap.size + 1) _ ⟨rfl, by simp, ?_⟩).mono ?_
  · have := eds_one (w1.alloc (.cells #[.string x, .int .i64 (k : Nat)] 23)) ⟨11, 0, ⟨#[]⟩, false⟩ 33
    simpa using this
  rintro e w2 ⟨v, he, hown, b2⟩
  obtain ⟨hl, g2, cap2, hv, hg, hS⟩ := strs_of_owns hown (by simp)
  subst hv
  subst he
  have DX : Hid (DocAt w2 w1.heap.size x k) := DocAt.below (w := (w1.alloc (.cells #[.string x, .int .i64 (k : Nat)] 23)).alloc (.cells #[.int .i64 11, .int .i64 0, .string ⟨#[]⟩, .bool false] 33)) (DocAt.below (w := w1.alloc (.cells #[.string x, .int .i64 (k : Nat)] 23)) ⟨by simp [go_sem], by simp [go_sem], by simp⟩ ((Below.refl _ _).alloc (Nat.le_refl _) _)) b2
  have DK : Hid (DocAt w2 w.heap.size s k) := DocAt.below ((D0.out.below ((Below.refl _ _).alloc (Nat.le_refl _) _)).below ((Below.refl _ _).alloc (Nat.le_refl _) _)) b2
  have B2 : Hid (Below w.heap.size w w2) := ((B1.out.alloc B1.out.size _).alloc (by have := B1.out.size; simp; omega) _).trans (b2.mono (by have := B1.out.size; simp; omega))
  clear b2 hown hl hS hg d0 d1
  obtain ⟨d0, d1, y0⟩ := DK.out
  obtain ⟨a0, a1, y1⟩ := DX.out
  have m0 : ¬ w.heap.size = w2.heap.size := by omega
  have m1 : ¬ w1.heap.size = w2.heap.size := by omega
  go_wp2_with fail
  go_returns
  exact ⟨rfl, B2.out.alloc B2.out.size _⟩

theorem walk (s : ByteArray) (at_ : Int) (w : World) (hs : s.size ≤ maxLen) (hat : (Lit.int .i64 at_).wf = true) {X : Prop} (_hL : X) :
    Calls Tryd.prog 6 #[.agg #[.string s, .int .i64 at_]] w fun e w' => e = .returned (.bool true) ∧ Below w.heap.size w w' := by
  unfold maxLen at hs
  clear hat _hL
  by_cases h1 : 2147483647 < (s.size : Int)
  · go_enter Tryd.func6, Tryd.ntmps6
    go_wp2_with fail
    refine (fits2_no s at_ _ h1 (by omega)).mono ?_
    rintro e w1 ⟨rfl, rfl⟩
    go_wp2_with fail
    go_returns
    exact ⟨rfl, by go_grown⟩
  by_cases h2 : Right s at_
  · obtain ⟨k, rfl⟩ := Int.eq_ofNat_of_zero_le h2.2.1
    exact core s k w h2.1 (by have := h2.2.2; omega)
  · have H2 := Go.Lib.hid h2
    clear h2
    go_enter Tryd.func6, Tryd.ntmps6
    go_wp2_with fail
    refine (fits2_yes s _ _ (by omega)).mono ?_
    rintro e w1 ⟨rfl, rfl⟩
    go_wp2_with fail
    refine (right_no s _ _ hs H2.out).mono ?_
    rintro e w1 ⟨rfl, rfl⟩
    go_wp2_with fail
    go_returns
    exact ⟨rfl, by go_grown⟩
end fnSwapTwice
end Go.Proofs.YtedjjimabchffaaDoor
