/- The walk of laws.FnKeysOut: the key that takes the sign behind the cursor out does what EDelete does by one, and the one ahead what EDeleteBefore does. -/
import Derived.Test.YtedjjimabchffaaDoorBufEdited
namespace Go.Proofs.YtedjjimabchffaaDoor
open Go.RowKit
set_option linter.unusedVariables false
set_option linter.unusedSimpArgs false

namespace fnKeysOut
set_option maxRecDepth 100000 in
set_option maxHeartbeats 4000000 in
theorem core (s X T Y U : ByteArray) (k j : Nat) (w : World) (hs : Small s) (hk : k ≤ s.size)
    (S1 : StepOk ⟨14, 0, ⟨#[]⟩, false⟩ s k ⟨#[]⟩ X k) (S2 : StepOk ⟨8, 1, ⟨#[]⟩, false⟩ s k T X k) (S3 : StepOk ⟨16, 0, ⟨#[]⟩, false⟩ s k ⟨#[]⟩ Y j) (S4 : StepOk ⟨7, 1, ⟨#[]⟩, false⟩ s k U Y j)
    (hT : (T.size : Int) = min 1 ((s.size : Int) - k)) (hU : (U.size : Int) = min 1 (k : Int)) :
    Calls Tryd.prog 5 #[.agg #[.string s, .int .i64 (k : Nat)]] w fun e w' => e = .returned (.bool true) ∧ Below w.heap.size w w' := by
  have hsz := hs.2
  have hR : Right s (k : Int) := ⟨hs, by omega, by omega⟩
  have HR := Go.Lib.hid hR
  have O1 := Go.Lib.hid (fun w => one_any 14 0 ⟨#[]⟩ false s X _ k k w hs hk S1)
  have O2 := Go.Lib.hid (fun w => one_any 8 1 ⟨#[]⟩ false s X _ k k w hs hk S2)
  have O3 := Go.Lib.hid (fun w => one_any 16 0 ⟨#[]⟩ false s Y _ k j w hs hk S3)
  have O4 := Go.Lib.hid (fun w => one_any 7 1 ⟨#[]⟩ false s Y _ k j w hs hk S4)
  have HT := Go.Lib.hid hT
  have HU := Go.Lib.hid hU
  have hw : IntKind.i64.wrap ((s.size : Int) - (k : Int)) = (s.size : Int) - (k : Int) := IntWalk.i64_in _ (by omega)
  clear hR S1 S2 S3 S4 hs hT hU
  go_enter Tryd.func5, Tryd.ntmps5
  go_wp2_with fail
  refine (fits2_yes s _ _ (by omega)).mono ?_
  rintro e w1 ⟨rfl, rfl⟩
  go_wp2_with fail
  refine (right_yes s _ _ HR.out).mono ?_
  rintro e w1 ⟨rfl, rfl⟩
  go_wp2_with fail
  refine (O1.out _).mono ?_
  rintro e w1 ⟨rfl, b1⟩
  have D0 : Hid (DocAt w1 w.heap.size s k) := ⟨(b1.cell (p := ⟨w.heap.size, 0, none⟩) (by simp <;> omega)).trans (by simp [go_sem]), (b1.cell (p := ⟨w.heap.size, 1, none⟩) (by simp <;> omega)).trans (by simp [go_sem]), by have := b1.size; simp at this; omega⟩
  have B1 : Hid (Below w.heap.size w w1) := ((((Below.refl w.heap.size w).alloc (Nat.le_refl _) _).alloc (by simp) _).alloc (by simp; omega) _).trans (b1.mono (by simp; omega))
  clear b1
  obtain ⟨d0, d1, z1⟩ := D0.out
  go_wp2_with fail
  refine (O2.out _).mono ?_
  rintro e w2 ⟨rfl, b2⟩
  have DA : Hid (DocAt w2 w1.heap.size X k) := DocAt.below (w := w1.alloc (.cells #[.string X, .int .i64 (k : Nat)] 23)) ⟨by simp [go_sem], by simp [go_sem], by simp⟩ b2
  have DK : Hid (DocAt w2 w.heap.size s k) := DocAt.below (D0.out.below ((Below.refl _ _).alloc (Nat.le_refl _) _)) b2
  have B2 : Hid (Below w.heap.size w w2) := (B1.out.alloc B1.out.size _).trans (b2.mono (by have := B1.out.size; simp; omega))
  clear b2 d0 d1
  obtain ⟨d0, d1, y0⟩ := DK.out
  obtain ⟨a0, a1, y1⟩ := DA.out
  go_wp2_with fail
  refine (O3.out _).mono ?_
  rintro e w3 ⟨rfl, b3⟩
  have EB : Hid (DocAt w3 w2.heap.size X k) := DocAt.below (w := w2.alloc (.cells #[.string X, .int .i64 (k : Nat)] 23)) ⟨by simp [go_sem], by simp [go_sem], by simp⟩ b3
  have EA : Hid (DocAt w3 w1.heap.size X k) := DocAt.below (DA.out.below ((Below.refl _ _).alloc (Nat.le_refl _) _)) b3
  have EK : Hid (DocAt w3 w.heap.size s k) := DocAt.below (DK.out.below ((Below.refl _ _).alloc (Nat.le_refl _) _)) b3
  have B3 : Hid (Below w.heap.size w w3) := (B2.out.alloc B2.out.size _).trans (b3.mono (by have := B2.out.size; simp; omega))
  clear b3 d0 d1 a0 a1
  obtain ⟨d0, d1, x0⟩ := EK.out
  go_wp2_with fail
  refine (O4.out _).mono ?_
  rintro e w4 ⟨rfl, b4⟩
  have FC : Hid (DocAt w4 w3.heap.size Y j) := DocAt.below (w := w3.alloc (.cells #[.string Y, .int .i64 (j : Nat)] 23)) ⟨by simp [go_sem], by simp [go_sem], by simp⟩ b4
  have FB : Hid (DocAt w4 w2.heap.size X k) := DocAt.below (EB.out.below ((Below.refl _ _).alloc (Nat.le_refl _) _)) b4
  have FA : Hid (DocAt w4 w1.heap.size X k) := DocAt.below (EA.out.below ((Below.refl _ _).alloc (Nat.le_refl _) _)) b4
  have FK : Hid (DocAt w4 w.heap.size s k) := DocAt.below (EK.out.below ((Below.refl _ _).alloc (Nat.le_refl _) _)) b4
  have B4 : Hid (Below w.heap.size w w4) := (B3.out.alloc B3.out.size _).trans (b4.mono (by have := B3.out.size; simp; omega))
  clear b4 d0 d1
  obtain ⟨d0, d1, x0⟩ := FK.out
  obtain ⟨a0, a1, x1⟩ := FA.out
  obtain ⟨b0, b1, x2⟩ := FB.out
  obtain ⟨c0, c1, x3⟩ := FC.out
  have m0 : ¬ w.heap.size = w4.heap.size := by omega
  have m1 : ¬ w1.heap.size = w4.heap.size := by omega
  have m2 : ¬ w2.heap.size = w4.heap.size := by omega
  have m3 : ¬ w3.heap.size = w4.heap.size := by omega
  go_wp2_with fail
  all_goals go_returns
  all_goals refine ⟨?_, B4.out.alloc B4.out.size _⟩
  all_goals (clear HR O1 O2 O3 O4 D0 DA DK EB EA EK FC FB FA FK d0 d1 a0 a1 b0 b1 c0 c1; have h1 := HT.out; have h2 := HU.out; simp; omega)

theorem walk (s : ByteArray) (at_ : Int) (w : World) (hs : s.size ≤ maxLen) (hat : (Lit.int .i64 at_).wf = true) {X : Prop} (_hL : X) :
    Calls Tryd.prog 5 #[.agg #[.string s, .int .i64 at_]] w fun e w' => e = .returned (.bool true) ∧ Below w.heap.size w w' := by
  unfold maxLen at hs
  clear hat _hL
  by_cases h1 : 2147483647 < (s.size : Int)
  · go_enter Tryd.func5, Tryd.ntmps5
    go_wp2_with fail
    refine (fits2_no s at_ _ h1 (by omega)).mono ?_
    rintro e w1 ⟨rfl, rfl⟩
    go_wp2_with fail
    go_returns
    exact ⟨rfl, by go_grown⟩
  by_cases h2 : Right s at_
  · obtain ⟨k, rfl⟩ := Int.eq_ofNat_of_zero_le h2.2.1
    have hk : k ≤ s.size := by have := h2.2.2; omega
    have hsm := h2.1
    have S3 := step_key 16 (.inr rfl) s _ k _ (fun bb lb w h => key_back bb lb s k w h hsm.wide hk) 0 ⟨#[]⟩ false
    have S4 : StepOk ⟨7, 1, ⟨#[]⟩, false⟩ s k _ _ _ := step_before s k 1 hsm.wide hk (by omega) ⟨#[]⟩ false
    have hU : ((s.extract (k - 1) k).size : Int) = min 1 (k : Int) := by rw [size_sub s (k - 1) k (by omega)]; omega
    by_cases h3 : k < s.size
    · have S1 := step_key 14 (.inl rfl) s _ k _ (fun bb lb w h => key_char_some bb lb s k (k + 1) w h hsm h3 rfl) 0 ⟨#[]⟩ false
      have S2 : StepOk ⟨8, 1, ⟨#[]⟩, false⟩ s k _ _ _ := step_behind s k 1 (k + 1) hsm h3 rfl (by omega) ⟨#[]⟩ false
      exact core s _ _ _ _ k (k - 1) w hsm hk S1 S2 S3 S4 (by rw [size_sub s k (k + 1) (by omega)]; omega) hU
    · obtain rfl : k = s.size := by omega
      have S1 := step_key 14 (.inl rfl) s _ s.size _ (fun bb lb w h => key_char_end bb lb s w h hsm) 0 ⟨#[]⟩ false
      have S2 : StepOk ⟨8, 1, ⟨#[]⟩, false⟩ s s.size _ _ _ := step_end s 1 hsm ⟨#[]⟩ false
      exact core s _ _ _ _ s.size (s.size - 1) w hsm hk S1 S2 S3 S4 (by simp; rfl) hU
  · have H2 := Go.Lib.hid h2
    clear h2
    go_enter Tryd.func5, Tryd.ntmps5
    go_wp2_with fail
    refine (fits2_yes s _ _ (by omega)).mono ?_
    rintro e w1 ⟨rfl, rfl⟩
    go_wp2_with fail
    refine (right_no s _ _ hs H2.out).mono ?_
    rintro e w1 ⟨rfl, rfl⟩
    go_wp2_with fail
    go_returns
    exact ⟨rfl, by go_grown⟩
end fnKeysOut
end Go.Proofs.YtedjjimabchffaaDoor
