/- The walk of spec.KeyName. -/
import Derived.Test.YtkjahndemlladaaDoorKeyName
import Derived.Laws.IdiomStrings
import Derived.Laws.BytesArg
namespace Go.Proofs.YtkjahndemlladaaDoor
open Go.RowKit
set_option linter.unusedVariables false
set_option linter.unusedSimpArgs false

def ctl (z : Nat) : Prop := 1 ≤ z ∧ z ≤ 26 ∧ z ≠ 9 ∧ z ≠ 10 ∧ z ≠ 13

def ctlName (z : Nat) : ByteArray := ⟨#[67, 111, 110, 116, 114, 111, 108]⟩ ++ ⟨#[UInt8.ofNat (z + 64)]⟩

set_option maxHeartbeats 2000000 in
theorem keyname_ctl (s : ByteArray) (z : Nat) (hs : s.size = 1) (hz : ∀ h, (s[0]'h).toNat = z) (h : ctl z) (w : World) : Calls Tryd.prog 4 #[.string s] w fun e w' => e = .returned (.string (ctlName z)) ∧ Below w.heap.size w w' := by
  obtain ⟨h1, h2, h3, h4, h5⟩ := h
  have hcv : (convert 24 9 (.slice (some ⟨w.heap.size, 0, none⟩) 1 1)).run Tryd.prog (w.alloc (.cells #[.int .u8 (65 + (z : Int) - 1)] 5)) = .ok (.string ⟨#[UInt8.ofNat (z + 64)]⟩) (w.alloc (.cells #[.int .u8 (65 + (z : Int) - 1)] 5)) :=
    run_convert_bytes_back (P := Tryd.prog) _ 24 9 5 ⟨w.heap.size, 0, none⟩ 1 [UInt8.ofNat (z + 64)] Tryd.underlying24 Tryd.underlying5 Tryd.underlying9 (fun j hj => by
      have hj0 : j = 0 := by simp at hj; omega
      subst hj0
      have e : ((UInt8.ofNat (z + 64)).toNat : Int) = 65 + (z : Int) - 1 := by
        rw [UInt8.toNat_ofNat_of_lt' (by show z + 64 < 256; omega)]; omega
      simp only [List.getElem_cons_zero]
      rw [e, show (⟨w.heap.size, 0, none⟩ : Addr).add 0 = ⟨w.heap.size, 0, none⟩ from rfl]
      simp [go_sem])
  have q1 : (1 : Int) ≤ z := by omega
  have q2 : (z : Int) ≤ 26 := by omega
  have q3 : ((z : Int) != 9) = true := by simp; omega
  have q4 : ((z : Int) != 10) = true := by simp; omega
  have q5 : ((z : Int) != 13) = true := by simp; omega
  have q6 : IntKind.u8.wrap (65 + (z : Int)) = 65 + z := by rw [IntWalk.u8_in _ (by omega)]
  have q7 : IntKind.u8.wrap (65 + (z : Int) - 1) = 65 + z - 1 := by rw [IntWalk.u8_in _ (by omega)]
  have HN : Hid (ctlName z = ⟨#[67, 111, 110, 116, 114, 111, 108]⟩ ++ ⟨#[UInt8.ofNat (z + 64)]⟩) := rfl
  generalize ctlName z = nm at HN ⊢
  generalize UInt8.ofNat (z + 64) = u at HN hcv
  clear h1 h2 h3 h4 h5
  go_enter Tryd.func4, Tryd.ntmps4
  go_wp2_with fail
  go_returns
  exact ⟨by rw [HN.out]; rfl, (Below.refl _ _).alloc (Nat.le_refl _) _⟩

set_option maxHeartbeats 4000000 in
theorem keyname_map (s : ByteArray) (h : s.size = 1 → ∀ h0, ¬ ctl (s[0]'h0).toNat) (w : World) : Calls Tryd.prog 4 #[.string s] w fun e w' => e = .returned (.string (atMap mapL s)) ∧ Below w.heap.size w w' := by
  obtain ⟨W1, W2, W3, W4, W5, W6, W7, W8, W9, W10, r1, r2, r3, r4, r5, r6, r7, r8, r9, r10, o10, b10⟩ := laid_map w
  have r11 := look_map W10 _ s o10
  have hmm := @run_makeMap Tryd.prog
  have B10 := Go.Lib.hid b10
  clear o10 b10
  by_cases hs : s.size = 1
  · have hc := h hs (by omega)
    obtain ⟨z, hz⟩ : ∃ z, ∀ h0, (s[0]'h0).toNat = z := ⟨(s[0]'(by omega)).toNat, fun _ => rfl⟩
    rw [hz] at hc
    clear h
    have hcase : z = 0 ∨ 26 < z ∨ z = 9 ∨ z = 10 ∨ z = 13 := by unfold ctl at hc; omega
    clear hc
    rcases hcase with rfl | hz2 | rfl | rfl | rfl
    · go_enter Tryd.func4, Tryd.ntmps4
      go_wp2_with fail
      go_returns
      exact ⟨rfl, B10.out⟩
    · have q1 : (1 : Int) ≤ z := by omega
      have q2 : decide ((z : Int) ≤ 26) = false := by simp; omega
      clear hz2
      go_enter Tryd.func4, Tryd.ntmps4
      go_wp2_with fail
      go_returns
      exact ⟨rfl, B10.out⟩
    · go_enter Tryd.func4, Tryd.ntmps4
      go_wp2_with fail
      go_returns
      exact ⟨rfl, B10.out⟩
    · go_enter Tryd.func4, Tryd.ntmps4
      go_wp2_with fail
      go_returns
      exact ⟨rfl, B10.out⟩
    · go_enter Tryd.func4, Tryd.ntmps4
      go_wp2_with fail
      go_returns
      exact ⟨rfl, B10.out⟩
  · have hs1 : ((s.size : Int) == 1) = false := by simp; omega
    clear h
    go_enter Tryd.func4, Tryd.ntmps4
    go_wp2_with fail
    go_returns
    exact ⟨rfl, B10.out⟩
end Go.Proofs.YtkjahndemlladaaDoor
