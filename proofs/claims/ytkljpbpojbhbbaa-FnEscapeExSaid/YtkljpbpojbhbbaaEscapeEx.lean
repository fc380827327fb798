/- The walk of laws.FnEscapeEx: the keys of sequences by their last signs. -/
import Derived.Test.YtkljpbpojbhbbaaCaught
import Derived.Shelf.Abstract
import Derived.BigQuiet
namespace Go.Proofs.Ytkljpbpojbhbbaa
open Go.RowKit
set_option linter.unusedVariables false
set_option linter.unusedSimpArgs false

/-- The key of a sequence's last sign. -/
def exKey (c : Int) : Int := if c = 68 then 2 else if c = 67 then 6 else if c = 65 then 16 else if c = 66 then 14 else if c = 72 then 1 else if c = 70 then 5 else 0
def exKeyOf (t : Bool) (c : Int) : Int := if c = 126 then (if t then 4 else 0) else exKey c
theorem exKey_bd (c : Int) : 0 ≤ exKey c ∧ exKey c ≤ 16 := by unfold exKey; repeat' (first | omega | split)
theorem exKeyOf_bd (t : Bool) (c : Int) : 0 ≤ exKeyOf t c ∧ exKeyOf t c ≤ 16 := by
  unfold exKeyOf
  have := exKey_bd c
  cases t <;> split <;> first | omega | (simp; done) | (simp; omega)

theorem spec_ex (c : Int) (w : World) : Calls Try.prog 14 #[.int .i64 c] w fun e w' => e = .returned (.int .i64 (exKey c)) ∧ w = w' := by
  go_enter Try.func14, Try.ntmps14
  go_wp2
  all_goals (go_returns; exact ⟨by simp_all [exKey], rfl⟩)

theorem key_ss3 (b : Nat) (s : ByteArray) (c : Int) (w : World) (h0 : w.cell? ⟨b, 0, none⟩ = some (.string s)) (h1 : w.cell? ⟨b, 1, none⟩ = some (.int .i32 c)) :
    Calls Try.prog 29 #[.pointer (some ⟨b, 0, none⟩)] w fun e w' => e = .returned (.int .i32 (exKey c)) ∧ w = w' := by
  go_enter Try.func29, Try.ntmps29
  go_wp2
  all_goals (go_returns; exact ⟨by simp_all [exKey], rfl⟩)

theorem key_ex (b : Nat) (s : ByteArray) (c : Int) (w : World) (h0 : w.cell? ⟨b, 0, none⟩ = some (.string s)) (h1 : w.cell? ⟨b, 1, none⟩ = some (.int .i32 c)) :
    Calls Try.prog 28 #[.pointer (some ⟨b, 0, none⟩)] w fun e w' => e = .returned (.int .i32 (exKeyOf (s.toList == [51]) c)) ∧ w = w' := by
  go_enter Try.func28, Try.ntmps28
  go_wp2
  all_goals (go_returns; exact ⟨by simp_all [exKey, exKeyOf], rfl⟩)

theorem marks_some (s : ByteArray) (w : World) (hs : s.size ≤ 20) : Calls Try.prog 13 #[.string s] w (SomeBool w) := by
  go_enter Try.func13, Try.ntmps13
  go_wp2
  go_loop [6] (fun i => ∃ k : Nat, k ≤ s.size ∧ i = .int .i64 k) (fun i => s.size - (intOf i).toNat)
  case atStart => exact ⟨0, Nat.zero_le _, rfl⟩
  case round =>
    obtain ⟨k, hk, rfl⟩ := hrel
    by_cases hlt : k < s.size
    · by_cases h1 : (s[k].toNat : Int) = 59
      · have h1' : ((s[k].toNat : Int) != 59) = false := by simp [h1]
        clear h1
        go_wp2
        go_round
        case rel => exact ⟨k + 1, by omega, by go_num⟩
        case measure => simp [intOf]; omega
      · have h1' : ((s[k].toNat : Int) != 59) = true := by simp [h1]
        clear h1
        by_cases h2 : (s[k].toNat : Int) < 48
        · go_wp2
          go_returns
          exact .mk rfl
        · by_cases h3 : (57 : Int) < s[k].toNat
          · go_wp2
            go_returns
            exact .mk rfl
          · go_wp2
            go_round
            case rel => exact ⟨k + 1, by omega, by go_num⟩
            case measure => simp [intOf]; omega
    · go_wp2
      go_returns
      exact .mk rfl

theorem door_ex (s : ByteArray) (c : Int) (w : World) :
    Calls Try.prog 24 #[.string s, .int .i32 c] w fun e w' => e = .returned (.int .i32 (exKeyOf (s.toList == [51]) c)) ∧ w' = w.alloc (.cells #[.string s, .int .i32 c] 60) := by
  go_enter Try.func24, Try.ntmps24
  go_wp2_with (go_at_call 28; refine (key_ex w.heap.size s c _ ?_ ?_).mono ?_; (· simp [go_sem]); (· simp [go_sem]); rintro e w' ⟨rfl, rfl⟩)
  go_returns
  exact ⟨rfl, rfl⟩

theorem door_ss3 (c : Int) (w : World) :
    Calls Try.prog 25 #[.string ByteArray.empty, .int .i32 c] w fun e w' => e = .returned (.int .i32 (exKey c)) ∧ w' = w.alloc (.cells #[.string ByteArray.empty, .int .i32 c] 60) := by
  go_enter Try.func25, Try.ntmps25
  go_wp2_with (go_at_call 29; refine (key_ss3 w.heap.size ByteArray.empty c _ ?_ ?_).mono ?_; (· simp [go_sem]); (· simp [go_sem]); rintro e w' ⟨rfl, rfl⟩)
  go_returns
  exact ⟨rfl, rfl⟩

theorem impl_ex (s : ByteArray) (c : Int) (w : World) (h0 : 0 ≤ c) (h1 : c < 128) :
    Calls Try.prog 15 #[.string s, .int .i64 c] w fun e w' => e = .returned (.int .i64 (exKeyOf (s.toList == [51]) c)) ∧ Below w.heap.size w w' := by
  have hb := exKeyOf_bd (s.toList == [51]) c
  go_enter Try.func15, Try.ntmps15
  go_wp2_with (go_at_call 24; refine (door_ex s c _).mono ?_; rintro e w' ⟨rfl, rfl⟩)
  go_returns
  exact ⟨rfl, by go_grown⟩

theorem impl_ss3 (c : Int) (w : World) (h0 : 0 ≤ c) (h1 : c < 128) :
    Calls Try.prog 16 #[.int .i64 c] w fun e w' => e = .returned (.int .i64 (exKey c)) ∧ Below w.heap.size w w' := by
  have hb := exKey_bd c
  go_enter Try.func16, Try.ntmps16
  go_wp2_with (go_at_call 25; refine (door_ss3 c _).mono ?_; rintro e w' ⟨rfl, rfl⟩)
  go_returns
  exact ⟨rfl, by go_grown⟩

namespace fnEscapeEx
theorem walk (s : ByteArray) (c : Int) (w : World) (hs : s.size ≤ maxLen) (hc : (Lit.int .u8 c).wf = true) :
    Calls Try.prog 6 #[.string s, .int .u8 c] w fun e w' => e = .returned (.bool true) ∧ Below w.heap.size w w' := by
  have bd := bounds_u8 hc
  clear hc
  by_cases h1 : 2147483647 < (s.size : Int)
  · unfold maxLen at hs
    go_enter Try.func6, Try.ntmps6
    go_wp2_with fail
    go_returns
    exact ⟨rfl, Below.refl _ _⟩
  by_cases h2 : 20 < (s.size : Int)
  · go_enter Try.func6, Try.ntmps6
    go_wp2_with fail
    go_returns
    exact ⟨rfl, Below.refl _ _⟩
  go_enter Try.func6, Try.ntmps6
  go_wp2_with fail
  refine (marks_some s _ (by omega)).mono ?_
  rintro e w1 ⟨b, rfl, rfl⟩
  cases b with
  | false =>
    go_wp2_with fail
    go_returns
    exact ⟨rfl, Below.refl _ _⟩
  | true =>
    by_cases h3 : 128 ≤ c
    · go_wp2_with fail
      go_returns
      exact ⟨rfl, Below.refl _ _⟩
    have e1 : (exKey 72 == 1) = true := by decide
    by_cases h4 : c = 126
    · subst h4
      have e2 : exKey 126 = 0 := by decide
      cases ha : (s.toList == [51]) with
      | true =>
        have e3 : exKeyOf true 126 = 4 := by decide
        go_wp2_with fail
        refine (spec_ex 126 _).mono ?_
        rintro e w1 ⟨rfl, rfl⟩
        go_wp2_with fail
        refine (impl_ex s 126 _ (by omega) (by omega)).mono ?_
        rintro e w1 ⟨rfl, b1⟩
        rw [ha]
        go_wp2_with fail
        refine (impl_ss3 126 _ (by omega) (by omega)).mono ?_
        rintro e w2 ⟨rfl, b2⟩
        go_wp2_with fail
        refine (spec_ex 126 _).mono ?_
        rintro e w2 ⟨rfl, rfl⟩
        go_wp2_with fail
        refine (impl_ss3 72 _ (by omega) (by omega)).mono ?_
        rintro e w3 ⟨rfl, b3⟩
        go_wp2_with fail
        go_returns
        exact ⟨rfl, (b1.trans (b2.mono b1.size)).trans (b3.mono (Nat.le_trans b1.size b2.size))⟩
      | false =>
        have e3 : exKeyOf false 126 = 0 := by decide
        go_wp2_with fail
        refine (spec_ex 126 _).mono ?_
        rintro e w1 ⟨rfl, rfl⟩
        go_wp2_with fail
        refine (impl_ex s 126 _ (by omega) (by omega)).mono ?_
        rintro e w1 ⟨rfl, b1⟩
        rw [ha]
        go_wp2_with fail
        refine (impl_ss3 126 _ (by omega) (by omega)).mono ?_
        rintro e w2 ⟨rfl, b2⟩
        go_wp2_with fail
        refine (spec_ex 126 _).mono ?_
        rintro e w2 ⟨rfl, rfl⟩
        go_wp2_with fail
        refine (impl_ss3 72 _ (by omega) (by omega)).mono ?_
        rintro e w3 ⟨rfl, b3⟩
        go_wp2_with fail
        go_returns
        exact ⟨rfl, (b1.trans (b2.mono b1.size)).trans (b3.mono (Nat.le_trans b1.size b2.size))⟩
    · have h4' : (c == 126) = false := by simp [h4]
      have e3 : exKeyOf (s.toList == [51]) c = exKey c := by simp [exKeyOf, h4]
      have E3 := Go.Lib.hid e3
      clear h4 e3
      go_wp2_with fail
      refine (spec_ex c _).mono ?_
      rintro e w1 ⟨rfl, rfl⟩
      go_wp2_with fail
      refine (impl_ex s c _ (by omega) (by omega)).mono ?_
      rw [E3.out]
      rintro e w1 ⟨rfl, b1⟩
      go_wp2_with fail
      refine (impl_ss3 c _ (by omega) (by omega)).mono ?_
      rintro e w2 ⟨rfl, b2⟩
      go_wp2_with fail
      refine (spec_ex c _).mono ?_
      rintro e w2 ⟨rfl, rfl⟩
      go_wp2_with fail
      refine (impl_ss3 72 _ (by omega) (by omega)).mono ?_
      rintro e w3 ⟨rfl, b3⟩
      go_wp2_with fail
      go_returns
      exact ⟨rfl, (b1.trans (b2.mono b1.size)).trans (b3.mono (Nat.le_trans b1.size b2.size))⟩
end fnEscapeEx
end Go.Proofs.Ytkljpbpojbhbbaa
