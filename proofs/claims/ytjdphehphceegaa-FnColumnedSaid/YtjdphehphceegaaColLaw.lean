/- laws.FnColumned: its parts. -/
import Derived.Test.YtjdphehphceegaaColSpec
import Derived.Test.YtjdphehphceegaaPrintAny
import Derived.Test.YtjdphehphceegaaRowStrsB
namespace Go.Proofs.Ytjdphehphceegaa
open Go.RowKit
set_option linter.unusedVariables false
set_option linter.unusedSimpArgs false

theorem same_col (b1 b2 n : Nat) (R : Nat → ByteArray) (w : World) (h1 : StrFn w b1 0 n R) (h2 : StrFn w b2 0 n R) (hn : n ≤ 12) :
    Calls Try.prog 8 #[.slice (some ⟨b1, 0, none⟩) n n, .slice (some ⟨b2, 0, none⟩) n n] w fun e w' => e = .returned (.bool true) ∧ Below w.heap.size w w' := by
  have H1 := Go.Lib.hid h1
  have H2 := Go.Lib.hid h2
  clear h1 h2
  go_enter Try.func8, Try.ntmps8
  go_wp2_with fail
  go_loopw [5] (fun i wr => ∃ j : Nat, j ≤ n ∧ i = .int .i64 j ∧ Hid (Below w.heap.size w wr)) (fun i _ => n - (intOf i).toNat)
  case atStart => exact ⟨0, Nat.zero_le _, rfl, Below.refl _ _⟩
  case round =>
    obtain ⟨j, hj, rfl, HW⟩ := hrel
    by_cases hlt : j < n
    · have c1 := (HW.out.cell (p := ⟨b1, j, none⟩) H1.out.1).trans (H1.out.at_ hlt).1
      have c2 := (HW.out.cell (p := ⟨b2, j, none⟩) H2.out.1).trans (H2.out.at_ hlt).1
      generalize R j = y at c1 c2
      go_wp2_with fail
      go_quiet (fail)
      go_wp2_with fail
      go_roundw
      case rel => exact ⟨j + 1, by omega, by go_num, below_drewN HW.out _⟩
      case measure => simp [intOf]; omega
    · obtain rfl : j = n := by omega
      go_wp2_with fail
      go_returns
      exact ⟨rfl, HW.out⟩

/-- The bytes that the law lets in. -/
def OkB (z : Int) : Prop := z = 10 ∨ z = 13 ∨ 32 ≤ z ∧ z ≤ 126
theorem prt_clean (s : ByteArray) (h : ∀ (i : Nat) (hi : i < s.size), OkB ((s[i]'hi).toNat : Int)) : Prt (clean s) := by
  intro k hk
  have hm : (clean s)[k] ∈ (clean s).data.toList := by
    have : (clean s)[k] = (clean s).data.toList[k]'(by simpa using hk) := rfl
    rw [this]; exact List.getElem_mem _
  rw [clean_list] at hm
  simp only [List.mem_filter] at hm
  obtain ⟨⟨hm, h10⟩, h13⟩ := hm
  obtain ⟨i, hi, hx⟩ := List.getElem_of_mem hm
  have hi' : i < s.size := by simpa using hi
  have hb := h i hi'
  have hx' : s[i]'hi' = (clean s)[k] := hx
  rw [hx'] at hb
  have n10 : (clean s)[k] ≠ 10 := by simpa using h10
  have n13 : (clean s)[k] ≠ 13 := by simpa using h13
  have m10 : ((clean s)[k]).toNat ≠ 10 := fun e => n10 (UInt8.toNat_inj.mp e)
  have m13 : ((clean s)[k]).toNat ≠ 13 := fun e => n13 (UInt8.toNat_inj.mp e)
  rcases hb with hb | hb | hb
  · omega
  · omega
  · omega
end Go.Proofs.Ytjdphehphceegaa
