/- The walk of laws.FnDisplayAt: as many columns stand ahead of a cursor as signs, in a printable text. -/
import Derived.Test.YtedjjimabchffaaDisplayAt
namespace Go.Proofs.Ytedjjimabchffaa
open Go.RowKit
set_option linter.unusedVariables false
set_option linter.unusedSimpArgs false

theorem keep2 {w wp w1 : World} {b : Nat} {x y : Value} (b1 : Below wp.heap.size wp w1) (h1 : wp.cell? ⟨b, 0, none⟩ = some x) (h2 : wp.cell? ⟨b, 1, none⟩ = some y) (h3 : b < wp.heap.size) (h5 : w.heap.size ≤ wp.heap.size) (h4 : Below w.heap.size w wp) :
    w1.cell? ⟨b, 0, none⟩ = some x ∧ w1.cell? ⟨b, 1, none⟩ = some y ∧ b < w1.heap.size ∧ w.heap.size ≤ w1.heap.size ∧ Below w.heap.size w w1 :=
  ⟨(b1.cell (p := ⟨b, 0, none⟩) h3).trans h1, (b1.cell (p := ⟨b, 1, none⟩) h3).trans h2, Nat.lt_of_lt_of_le h3 b1.size, Nat.le_trans h5 b1.size, h4.trans (b1.mono h5)⟩

theorem right_yes' (s : ByteArray) (at_ : Int) (w : World) (h : Right s at_) :
    Calls Try.prog 9 #[.agg #[.string s, .int .i64 at_]] w fun e w' => e = .returned (.bool true) ∧ Below w.heap.size w w' :=
  (right_yes s at_ w h).mono fun e w' ⟨he, hw⟩ => ⟨he, by rw [hw]; exact (Below.refl _ _).alloc (Nat.le_refl _) _⟩

theorem printable_yes' (s : ByteArray) (w : World) (h : Prints s) : Calls Try.prog 10 #[.string s] w fun e w' => e = .returned (.bool true) ∧ Below w.heap.size w w' :=
  (printable_yes s w h).mono fun e w' ⟨he, hw⟩ => ⟨he, by rw [hw]; exact Below.refl _ _⟩

theorem printable_no' (s : ByteArray) (w : World) (hs : s.size ≤ 9223372036854775807) (h : ¬ Prints s) : Calls Try.prog 10 #[.string s] w fun e w' => e = .returned (.bool false) ∧ Below w.heap.size w w' :=
  (printable_no s w hs h).mono fun e w' ⟨he, hw⟩ => ⟨he, by rw [hw]; exact Below.refl _ _⟩
theorem right_no' (s : ByteArray) (at_ : Int) (w : World) (hs : s.size ≤ 9223372036854775807) (h : ¬ Right s at_) :
    Calls Try.prog 9 #[.agg #[.string s, .int .i64 at_]] w fun e w' => e = .returned (.bool false) ∧ Below w.heap.size w w' :=
  (right_no s at_ w hs h).mono fun e w' ⟨he, hw⟩ => ⟨he, by rw [hw]; exact (Below.refl _ _).alloc (Nat.le_refl _) _⟩

theorem display_int (s : ByteArray) (z : Int) (w : World) (hs : Small s) (hp : Prints s) (h0 : 0 ≤ z) (hk : z ≤ s.size) :
    Calls Try.prog 11 #[.agg #[.string s, .int .i64 z]] w fun e w' => e = .returned (.int .i64 z) ∧ Below w.heap.size w w' := by
  obtain ⟨k, rfl⟩ := Int.eq_ofNat_of_zero_le h0
  exact display_at s k w hs hp (by omega)

theorem display_ab (w : World) :
    Calls Try.prog 11 #[.agg #[.string ⟨#[97, 98]⟩, .int .i64 2]] w fun e w' => e = .returned (.int .i64 2) ∧ Below w.heap.size w w' :=
  display_int ⟨#[97, 98]⟩ 2 w ⟨by intro b hb; simp at hb; rcases hb with rfl | rfl <;> decide, by decide⟩ ⟨by decide, by decide⟩ (by decide) (by decide)

namespace fnDisplayAt
attribute [local go_sem] undef in
set_option maxHeartbeats 2000000 in
theorem walk (s : ByteArray) (at_ : Int) (w : World) (hs : s.size ≤ maxLen) (hat : (Lit.int .i64 at_).wf = true) :
    Calls Try.prog 3 #[.agg #[.string s, .int .i64 at_]] w fun e w' => e = .returned (.bool true) ∧ Below w.heap.size w w' := by
  unfold maxLen at hs
  clear hat
  by_cases h1 : 2147483647 < (s.size : Int)
  · go_enter Try.func3, Try.ntmps3
    go_wp2_with fail
    refine (fits2_no s at_ _ h1 (by omega)).mono ?_
    rintro e w1 ⟨rfl, rfl⟩
    go_wp2_with fail
    go_returns
    exact ⟨rfl, by go_grown⟩
  by_cases h2 : Right s at_
  · by_cases h3 : Prints s
    · have hk := h2.2.2
      have hk0 := h2.2.1
      have H2 := Go.Lib.hid h2
      have HSm := Go.Lib.hid h2.1
      have H3 := Go.Lib.hid h3
      clear h2 h3
      go_enter Try.func3, Try.ntmps3
      go_wp2_with fail
      refine (fits2_yes s _ _ (by omega)).mono ?_
      rintro e w1 ⟨rfl, rfl⟩
      go_wp2_with fail
      go_region_held3 (fun w' => w'.cell? ⟨w.heap.size, 0, none⟩ = some (.string s) ∧ w'.cell? ⟨w.heap.size, 1, none⟩ = some (.int .i64 at_) ∧ w.heap.size < w'.heap.size ∧ w.heap.size ≤ w'.heap.size ∧ Below w.heap.size w w') (first | (go_split_ands; exact keep2 b1 (by assumption) (by assumption) (by assumption) (by assumption) (by assumption)) | (refine ⟨?_, ?_, ?_, ?_, ?_⟩; (simp [go_sem]); (simp [go_sem]); (simp; omega); (simp; omega); exact (((Below.refl _ _).alloc (Nat.le_refl _) _).alloc (by simp) _).drew) | go_keep) (first | (go_at_call 9; (with_reducible refine (right_yes' s _ _ H2.out).mono ?_); rintro e w1 ⟨rfl, b1⟩) | (go_at_call 10; (with_reducible refine (printable_yes' s _ H3.out).mono ?_); rintro e w1 ⟨rfl, b1⟩) | (go_at_call 11; (with_reducible refine (display_ab _).mono ?_); rintro e w1 ⟨rfl, b1⟩) | (go_at_call 11; (with_reducible refine (display_int s _ _ HSm.out H3.out hk0 hk).mono ?_); rintro e w1 ⟨rfl, b1⟩))
      go_wp2_with fail
      go_returns
      exact ⟨rfl, by go_split_ands; assumption⟩
    · have H2 := Go.Lib.hid h2
      have H3 := Go.Lib.hid h3
      clear h2 h3
      go_enter Try.func3, Try.ntmps3
      go_wp2_with fail
      refine (fits2_yes s _ _ (by omega)).mono ?_
      rintro e w1 ⟨rfl, rfl⟩
      go_wp2_with fail
      first | (go_region_with (first | (go_at_call 9; (with_reducible refine (right_yes s _ _ H2.out).mono ?_); rintro e w1 ⟨rfl, rfl⟩) | (go_at_call 10; (with_reducible refine (printable_no s _ hs H3.out).mono ?_); rintro e w1 ⟨rfl, rfl⟩))) | fail
      all_goals go_wp2_with fail
      all_goals go_returns
      all_goals exact ⟨rfl, by go_grown⟩
  · have H2 := Go.Lib.hid h2
    clear h2
    go_enter Try.func3, Try.ntmps3
    go_wp2_with fail
    refine (fits2_yes s _ _ (by omega)).mono ?_
    rintro e w1 ⟨rfl, rfl⟩
    go_wp2_with fail
    first | (go_region_with (first | (go_at_call 9; (with_reducible refine (right_no s _ _ hs H2.out).mono ?_); rintro e w1 ⟨rfl, rfl⟩))) | fail
    all_goals go_wp2_with fail
    all_goals go_returns
    all_goals exact ⟨rfl, by go_grown⟩
end fnDisplayAt
end Go.Proofs.Ytedjjimabchffaa
