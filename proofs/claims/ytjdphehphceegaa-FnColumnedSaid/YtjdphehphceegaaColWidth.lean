/- goprompt.zzWidth of printable ASCII. -/
import Derived.Test.YtjdphehphceegaaAsciiText
import Derived.Laws.RangeString
import Derived.Laws.RangeAny
namespace Go.Proofs.Ytjdphehphceegaa
open Go.RowKit
set_option linter.unusedVariables false
set_option linter.unusedSimpArgs false

/-- A text of printable ASCII. -/
def Prt (s : ByteArray) : Prop := ∀ (k : Nat) (h : k < s.size), 32 ≤ (s[k]'h).toNat ∧ (s[k]'h).toNat ≤ 126
theorem room1_any (z : Nat) (h0 : 32 ≤ z) (h1 : z ≤ 126) (w : World) : Calls Try.prog 19 #[.int .i32 (z : Nat)] w fun e w' => e = .returned (.int .i64 1) ∧ w = w' := by
  have q1 : decide ((z : Int) < 32) = false := by simp; omega
  have q2 : decide ((127 : Int) ≤ z) = false := by simp; omega
  have q3 : ((z : Int) == 173) = false := by simp; omega
  clear h0 h1
  go_enter Try.func19, Try.ntmps19
  go_wp2_with fail
  all_goals go_returns
  all_goals exact ⟨rfl, rfl⟩

set_option maxHeartbeats 1000000 in
theorem width_any (s : ByteArray) (h : Prt s) (hs : s.size ≤ 100000) (w : World) : Calls Try.prog 14 #[.string s] w fun e w' => e = .returned (.int .i64 (s.size : Nat)) ∧ Below w.heap.size w w' := by
  have HP := Go.Lib.hid h
  clear h
  go_enter Try.func14, Try.ntmps14
  go_wp2_with fail
  go_loopw [3] (fun x wr => ∃ k : Nat, k ≤ s.size ∧ x = .int .i64 k ∧ wr = w.iter s k) (fun _ wr => s.size - wr.iterPos w.heap.size)
  case atStart => exact ⟨0, Nat.zero_le _, rfl, rfl⟩
  case round =>
    obtain ⟨k, hk, rfl, rfl⟩ := hrel
    by_cases hlt : k < s.size
    · have hnx : ∀ ty, (Instr.next (.pointer (some ⟨w.heap.size, 0, none⟩)) true ty).run Try.prog (w.iter s k) = _ := fun ty => run_next_any w s k ty hlt
      obtain ⟨p1, p2⟩ := HP.out k hlt
      rw [decode_ascii s k hlt (by omega)] at hnx
      generalize (s[k]'hlt).toNat = z at hnx p1 p2
      dsimp only at hnx
      have HR := Go.Lib.hid fun w => room1_any z p1 p2 w
      clear p1 p2
      go_wp2_with fail
      refine (HR.out _).mono ?_
      rintro e w1 ⟨rfl, rfl⟩
      go_wp2_with fail
      go_roundw
      case rel => exact ⟨k + 1, by omega, by go_num, rfl⟩
      case measure => simp; omega
    · obtain rfl : k = s.size := by omega
      have hnx := fun ty => run_next_end (P := Try.prog) w s s.size ty (by omega)
      go_wp2_with fail
      go_returns
      exact ⟨rfl, (Below.refl _ _).alloc (Nat.le_refl _) _⟩
end Go.Proofs.Ytjdphehphceegaa
