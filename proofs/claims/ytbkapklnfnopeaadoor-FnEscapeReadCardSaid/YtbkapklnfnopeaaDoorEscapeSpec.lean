/- laws.ascii9, impl.Printable at 'a', spec.EscapeRead. -/
import Derived.Test.YtbkapklnfnopeaaDoorAscii
import Derived.Laws.IdiomStrings
namespace Go.Proofs.YtbkapklnfnopeaaDoor
open Go.RowKit
set_option linter.unusedVariables false
set_option linter.unusedSimpArgs false

def Ascii9Post (s : ByteArray) (w : World) (e : Ending) (w' : World) : Prop := ∃ b, e = .returned (.bool b) ∧ (b = true → IsAscii s) ∧ w' = w

theorem ascii9_any (s : ByteArray) (w : World) (hs : s.size ≤ 2147483647) : Calls Tryd.prog 4 #[.string s] w (Ascii9Post s w) := by
  go_enter Tryd.func4, Tryd.ntmps4
  go_wp2
  go_loop [6] (fun i => ∃ k : Nat, k ≤ s.size ∧ i = .int .i64 k ∧ Hid (∀ (j : Nat) (hj : j < s.size), j < k → (s[j]'hj).toNat < 128)) (fun i => s.size - (intOf i).toNat)
  case atStart => exact ⟨0, Nat.zero_le _, rfl, fun j hj h => by omega⟩
  case round =>
    obtain ⟨k, hk, rfl, HN⟩ := hrel
    by_cases hlt : k < s.size
    · by_cases c1 : (128 : Int) ≤ (s[k].toNat : Int)
      · go_wp2_with fail
        go_returns
        exact ⟨false, rfl, (fun h => by cases h), rfl⟩
      · have C1 := Go.Lib.hid c1
        go_wp2_with fail
        go_round
        case rel => exact ⟨k + 1, by omega, by go_num, fun j hj h => by
          by_cases e : j < k
          · exact HN.out j hj e
          · obtain rfl : j = k := by omega
            have := C1.out; omega⟩
        case measure => simp [intOf]; omega
    · have ha : IsAscii s := isAscii_of s fun i hi => HN.out i hi (by omega)
      have HA := Go.Lib.hid ha
      clear ha
      go_wp2_with fail
      go_returns
      exact ⟨_, rfl, fun _ => HA.out, rfl⟩

theorem is_printable_a (w : World) : Calls Tryd.prog 9 #[.int .i32 97] w fun e w' => e = .returned (.bool true) ∧ w' = w := by
  go_enter Tryd.func9, Tryd.ntmps9
  go_wp2
  go_returns
  exact ⟨rfl, rfl⟩

theorem printable_a (w : World) : Calls Tryd.prog 7 #[.int .i64 97] w fun e w' => e = .returned (.bool true) ∧ w' = w := by
  go_enter Tryd.func7, Tryd.ntmps7
  go_wp2_with fail
  refine (is_printable_a w).mono ?_
  rintro e w1 ⟨rfl, rfl⟩
  go_wp2_with fail
  go_returns
  exact ⟨rfl, rfl⟩

/-- A sign of an attribute: a semicolon or a digit. -/
def IsAttr (z : Nat) : Prop := z = 59 ∨ (48 ≤ z ∧ z ≤ 57)
/-- The attribute of a text is its first n bytes. -/
def AttrEnd (a : ByteArray) (n : Nat) : Prop :=
  n ≤ a.size ∧ (∀ (i : Nat) (h : i < a.size), i < n → IsAttr (a[i]'h).toNat) ∧ (n = a.size ∨ ∃ h : n < a.size, ¬ IsAttr (a[n]'h).toNat)
theorem AttrEnd.unique {a : ByteArray} {n m : Nat} (h : AttrEnd a n) (k : AttrEnd a m) : n = m := by
  obtain ⟨a1, a2, a3⟩ := h
  obtain ⟨b1, b2, b3⟩ := k
  rcases Nat.lt_trichotomy n m with l | l | l
  · rcases a3 with e | ⟨hn, e⟩
    · omega
    · exact absurd (b2 n hn l) e
  · exact l
  · rcases b3 with e | ⟨hm, e⟩
    · omega
    · exact absurd (a2 m hm l) e
/-- The byte behind the attribute; 0 if there is none. -/
def lastOf (a : ByteArray) (n : Nat) : Int := ((a.data.toList)[n]?.map (·.toNat)).getD 0
end Go.Proofs.YtbkapklnfnopeaaDoor
