/- The walk of laws.FnThereBack: a cursor that moves as far as it can, and as far back, stands where it stood. -/
import Derived.Test.YtedjjimabchffaaDoorBufEdited
import Derived.Test.YtedjjimabchffaaDoorMovePlain
namespace Go.Proofs.YtedjjimabchffaaDoor
open Go.RowKit
set_option linter.unusedVariables false
set_option linter.unusedSimpArgs false

namespace fnThereBack
set_option maxRecDepth 100000 in
set_option maxHeartbeats 4000000 in
theorem core (s : ByteArray) (k n : Nat) (w : World) (hs : Small s) (hk : k ≤ s.size) (hn : n ≤ 2000) :
    Calls Tryd.prog 7 #[.agg #[.string s, .int .i64 (k : Nat)], .int .i64 (n : Nat)] w fun e w' => e = .returned (.bool true) ∧ Below w.heap.size w w' := by
  have hsz := hs.2
  have hR : Right s (k : Int) := ⟨hs, by omega, by omega⟩
  have HR := Go.Lib.hid hR
  obtain ⟨p, hp⟩ : ∃ p, p = min n (lineA (s.extract k s.size)).size := ⟨_, rfl⟩
  obtain ⟨q, hq⟩ : ∃ q, q = min n (colOf s k) := ⟨_, rfl⟩
  have hxs := size_sub s k s.size (by omega)
  have hla := lineA_le (s.extract k s.size)
  have hcl := colOf_le s k
  have h1 := right_back s k p hk (by omega)
  have h2 := left_back s k q hk (by omega)
  have hkp : k + p ≤ s.size := by omega
  have hqk : q ≤ k := by omega
  have S1 := step_right s k n hs hk ⟨#[]⟩ false
  rw [← hp] at S1
  have S2 := step_left s (k + p) p hs hkp (by omega) ⟨#[]⟩ false
  rw [Nat.min_eq_left h1, Nat.add_sub_cancel] at S2
  have S3 := step_left s k n hs hk hn ⟨#[]⟩ false
  rw [← hq] at S3
  have S4 := step_right s (k - q) q hs (by omega) ⟨#[]⟩ false
  rw [Nat.min_eq_left h2, Nat.sub_add_cancel hqk] at S4
  obtain ⟨A, hA⟩ : ∃ A, A = k + p := ⟨_, rfl⟩
  obtain ⟨C, hC⟩ : ∃ C, C = k - q := ⟨_, rfl⟩
  rw [← hA] at S1 S2 hkp
  rw [← hC] at S3 S4
  have e1 : (A : Int) - (k : Int) = (p : Int) := by omega
  have e2 : (k : Int) - (C : Int) = (q : Int) := by omega
  have hAk : (k : Int) ≤ A := by omega
  have hCk : (C : Int) ≤ k := by omega
  have hCk2 : C ≤ k := by omega
  have O1 := Go.Lib.hid (fun w => one_any 4 n ⟨#[]⟩ false s s _ k A w hs hk S1)
  have O2 := Go.Lib.hid (fun w => one_any 3 p ⟨#[]⟩ false s s _ A k w hs hkp S2)
  have O3 := Go.Lib.hid (fun w => one_any 3 n ⟨#[]⟩ false s s _ k C w hs hk S3)
  have O4 := Go.Lib.hid (fun w => one_any 4 q ⟨#[]⟩ false s s _ C k w hs (by omega) S4)
  have hw1 : IntKind.i64.wrap ((A : Int) - (k : Int)) = (p : Int) := by rw [e1]; exact IntWalk.i64_in _ (by omega)
  have hw2 : IntKind.i64.wrap ((k : Int) - (C : Int)) = (q : Int) := by rw [e2]; exact IntWalk.i64_in _ (by omega)
  have hn0 : ¬ (n : Int) < 0 := by omega
  have hn1 : ¬ (2000 : Int) < n := by omega
  clear hR hp hq hxs hla hcl h1 h2 S1 S2 S3 S4 hA hC hs
  go_enter Tryd.func7, Tryd.ntmps7
  go_wp2_with fail
  refine (fits2_yes s _ _ (by omega)).mono ?_
  rintro e w1 ⟨rfl, rfl⟩
  go_wp2_with fail
  refine (right_yes s _ _ HR.out).mono ?_
  rintro e w1 ⟨rfl, rfl⟩
  go_wp2_with fail
  refine (O1.out _).mono ?_
  rintro e w1 ⟨rfl, b1⟩
  have D0 : Hid (DocAt w1 w.heap.size s k) := ⟨(b1.cell (p := ⟨w.heap.size, 0, none⟩) (by simp <;> omega)).trans (by simp [go_sem]), (b1.cell (p := ⟨w.heap.size, 1, none⟩) (by simp <;> omega)).trans (by simp [go_sem]), by have := b1.size; simp at this; omega⟩
  have B1 : Hid (Below w.heap.size w w1) := ((((Below.refl w.heap.size w).alloc (Nat.le_refl _) _).alloc (by simp) _).alloc (by simp; omega) _).trans (b1.mono (by simp; omega))
  clear b1
  obtain ⟨d0, d1, z1⟩ := D0.out
  go_wp2_with fail
  refine (O2.out _).mono ?_
  rintro e w2 ⟨rfl, b2⟩
  have DA : Hid (DocAt w2 w1.heap.size s A) := DocAt.below (w := w1.alloc (.cells #[.string s, .int .i64 (A : Nat)] 23)) ⟨by simp [go_sem], by simp [go_sem], by simp⟩ b2
  have DK : Hid (DocAt w2 w.heap.size s k) := DocAt.below (D0.out.below ((Below.refl _ _).alloc (Nat.le_refl _) _)) b2
  have B2 : Hid (Below w.heap.size w w2) := (B1.out.alloc B1.out.size _).trans (b2.mono (by have := B1.out.size; simp; omega))
  clear b2 d0 d1
  obtain ⟨d0, d1, y0⟩ := DK.out
  obtain ⟨a0, a1, y1⟩ := DA.out
  go_wp2_with fail
  refine (O3.out _).mono ?_
  rintro e w3 ⟨rfl, b3⟩
  have EB : Hid (DocAt w3 w2.heap.size s k) := DocAt.below (w := w2.alloc (.cells #[.string s, .int .i64 (k : Nat)] 23)) ⟨by simp [go_sem], by simp [go_sem], by simp⟩ b3
  have EA : Hid (DocAt w3 w1.heap.size s A) := DocAt.below (DA.out.below ((Below.refl _ _).alloc (Nat.le_refl _) _)) b3
  have EK : Hid (DocAt w3 w.heap.size s k) := DocAt.below (DK.out.below ((Below.refl _ _).alloc (Nat.le_refl _) _)) b3
  have B3 : Hid (Below w.heap.size w w3) := (B2.out.alloc B2.out.size _).trans (b3.mono (by have := B2.out.size; simp; omega))
  clear b3 d0 d1 a0 a1
  obtain ⟨d0, d1, x0⟩ := EK.out
  go_wp2_with fail
  refine (O4.out _).mono ?_
  rintro e w4 ⟨rfl, b4⟩
  have FC : Hid (DocAt w4 w3.heap.size s C) := DocAt.below (w := w3.alloc (.cells #[.string s, .int .i64 (C : Nat)] 23)) ⟨by simp [go_sem], by simp [go_sem], by simp⟩ b4
  have FB : Hid (DocAt w4 w2.heap.size s k) := DocAt.below (EB.out.below ((Below.refl _ _).alloc (Nat.le_refl _) _)) b4
  have FA : Hid (DocAt w4 w1.heap.size s A) := DocAt.below (EA.out.below ((Below.refl _ _).alloc (Nat.le_refl _) _)) b4
  have FK : Hid (DocAt w4 w.heap.size s k) := DocAt.below (EK.out.below ((Below.refl _ _).alloc (Nat.le_refl _) _)) b4
  have B4 : Hid (Below w.heap.size w w4) := (B3.out.alloc B3.out.size _).trans (b4.mono (by have := B3.out.size; simp; omega))
  clear b4 d0 d1
  obtain ⟨d0, d1, x0⟩ := FK.out
  obtain ⟨a0, a1, x1⟩ := FA.out
  obtain ⟨b0, b1, x2⟩ := FB.out
  obtain ⟨c0, c1, x3⟩ := FC.out
  have m0 : ¬ w.heap.size = w4.heap.size := by omega
  have m1 : ¬ w1.heap.size = w4.heap.size := by omega
  have m2 : ¬ w2.heap.size = w4.heap.size := by omega
  have m3 : ¬ w3.heap.size = w4.heap.size := by omega
  go_wp2_with fail
  go_returns
  exact ⟨rfl, B4.out.alloc B4.out.size _⟩

theorem walk (s : ByteArray) (at_ : Int) (n : Int) (w : World) (hs : s.size ≤ maxLen) (hat : (Lit.int .i64 at_).wf = true) (hn : (Lit.int .i64 n).wf = true) {X : Prop} (_hL : X) :
    Calls Tryd.prog 7 #[.agg #[.string s, .int .i64 at_], .int .i64 n] w fun e w' => e = .returned (.bool true) ∧ Below w.heap.size w w' := by
  unfold maxLen at hs
  clear hat hn _hL
  by_cases h1 : 2147483647 < (s.size : Int)
  · go_enter Tryd.func7, Tryd.ntmps7
    go_wp2_with fail
    refine (fits2_no s at_ _ h1 (by omega)).mono ?_
    rintro e w1 ⟨rfl, rfl⟩
    go_wp2_with fail
    go_returns
    exact ⟨rfl, by go_grown⟩
  by_cases h2 : Right s at_
  · obtain ⟨k, rfl⟩ := Int.eq_ofNat_of_zero_le h2.2.1
    have hk : k ≤ s.size := by have := h2.2.2; omega
    by_cases h3 : n < 0
    · have H2 := Go.Lib.hid h2
      clear h2
      go_enter Tryd.func7, Tryd.ntmps7
      go_wp2_with fail
      refine (fits2_yes s _ _ (by omega)).mono ?_
      rintro e w1 ⟨rfl, rfl⟩
      go_wp2_with fail
      refine (right_yes s _ _ H2.out).mono ?_
      rintro e w1 ⟨rfl, rfl⟩
      go_wp2_with fail
      go_returns
      exact ⟨rfl, by go_grown⟩
    by_cases h4 : 2000 < n
    · have H2 := Go.Lib.hid h2
      clear h2
      go_enter Tryd.func7, Tryd.ntmps7
      go_wp2_with fail
      refine (fits2_yes s _ _ (by omega)).mono ?_
      rintro e w1 ⟨rfl, rfl⟩
      go_wp2_with fail
      refine (right_yes s _ _ H2.out).mono ?_
      rintro e w1 ⟨rfl, rfl⟩
      go_wp2_with fail
      go_returns
      exact ⟨rfl, by go_grown⟩
    · obtain ⟨m, rfl⟩ := Int.eq_ofNat_of_zero_le (show 0 ≤ n by omega)
      exact core s k m w h2.1 hk (by omega)
  · have H2 := Go.Lib.hid h2
    clear h2
    go_enter Tryd.func7, Tryd.ntmps7
    go_wp2_with fail
    refine (fits2_yes s _ _ (by omega)).mono ?_
    rintro e w1 ⟨rfl, rfl⟩
    go_wp2_with fail
    refine (right_no s _ _ hs H2.out).mono ?_
    rintro e w1 ⟨rfl, rfl⟩
    go_wp2_with fail
    go_returns
    exact ⟨rfl, by go_grown⟩
end fnThereBack
end Go.Proofs.YtedjjimabchffaaDoor
