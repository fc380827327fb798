/- spec.Printable. -/
import Derived.Test.YtjdphehphceegaaWords
namespace Go.Proofs.Ytjdphehphceegaa
open Go.RowKit
set_option linter.unusedVariables false
set_option linter.unusedSimpArgs false

/-- A text of printable signs, of at most 1000 bytes. -/
def Prints (s : ByteArray) : Prop := (∀ (j : Nat) (hj : j < s.size), 32 ≤ (s[j]'hj).toNat ∧ (s[j]'hj).toNat ≤ 126) ∧ s.size ≤ 1000

def PrintPost (s : ByteArray) (w : World) (e : Ending) (w' : World) : Prop := ∃ b, e = .returned (.bool b) ∧ (b = true ↔ Prints s) ∧ w = w'

theorem printable_any (s : ByteArray) (w : World) (hs : s.size ≤ 9223372036854775807) : Calls Try.prog 5 #[.string s] w (PrintPost s w) := by
  go_enter Try.func5, Try.ntmps5
  go_wp2
  go_loop [3] (fun i => ∃ k : Nat, k ≤ s.size ∧ i = .int .i64 k ∧ Hid (∀ (j : Nat) (hj : j < s.size), j < k → 32 ≤ (s[j]'hj).toNat ∧ (s[j]'hj).toNat ≤ 126)) (fun i => s.size - (intOf i).toNat)
  case atStart => exact ⟨0, Nat.zero_le _, rfl, fun j hj h => by omega⟩
  case round =>
    obtain ⟨k, hk, rfl, HN⟩ := hrel
    by_cases hlt : k < s.size
    · by_cases c1 : (s[k].toNat : Int) < 32
      · have HS : Hid (¬ Prints s) := fun h => by have := h.1 k hlt; omega
        go_wp2_with fail
        go_returns
        exact ⟨false, rfl, ⟨(fun h => by cases h), fun h => absurd h HS.out⟩, rfl⟩
      · by_cases c2 : (126 : Int) < (s[k].toNat : Int)
        · have HS : Hid (¬ Prints s) := fun h => by have := h.1 k hlt; omega
          go_wp2_with fail
          go_returns
          exact ⟨false, rfl, ⟨(fun h => by cases h), fun h => absurd h HS.out⟩, rfl⟩
        · have C1 := Go.Lib.hid c1
          have C2 := Go.Lib.hid c2
          go_wp2_with fail
          go_round
          case rel => exact ⟨k + 1, by omega, by go_num, fun j hj h => by
            by_cases e : j < k
            · exact HN.out j hj e
            · obtain rfl : j = k := by omega
              have := C1.out; have := C2.out; omega⟩
          case measure => simp [intOf]; omega
    · have ha : ∀ (j : Nat) (hj : j < s.size), 32 ≤ (s[j]'hj).toNat ∧ (s[j]'hj).toNat ≤ 126 := fun i hi => HN.out i hi (by omega)
      have HA := Go.Lib.hid ha
      clear ha
      by_cases h3 : (s.size : Int) ≤ 1000
      · go_wp2_with fail
        go_returns
        exact ⟨true, rfl, ⟨fun _ => ⟨HA.out, by omega⟩, fun _ => rfl⟩, rfl⟩
      · go_wp2_with fail
        go_returns
        exact ⟨false, rfl, ⟨(fun h => by cases h), fun h => absurd h.2 (by omega)⟩, rfl⟩

theorem printable_yes (s : ByteArray) (w : World) (h : Prints s) : Calls Try.prog 5 #[.string s] w fun e w' => e = .returned (.bool true) ∧ w = w' :=
  (printable_any s w (by have := h.2; omega)).mono fun _ _ ⟨b, he, hb, hw⟩ => by
    obtain rfl := hb.2 h
    exact ⟨he, hw⟩
theorem printable_no (s : ByteArray) (w : World) (hs : s.size ≤ 9223372036854775807) (h : ¬ Prints s) : Calls Try.prog 5 #[.string s] w fun e w' => e = .returned (.bool false) ∧ w = w' :=
  (printable_any s w hs).mono fun _ _ ⟨b, he, hb, hw⟩ => by
    cases b
    · exact ⟨he, hw⟩
    · exact absurd (hb.1 rfl) h

end Go.Proofs.Ytjdphehphceegaa
