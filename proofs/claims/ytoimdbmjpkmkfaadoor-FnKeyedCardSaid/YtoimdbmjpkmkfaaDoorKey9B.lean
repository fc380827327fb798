/- laws.key9, with the bounds of a step's kind (printed by wip/gen/mkkey9b.py). -/
import Derived.Test.YtoimdbmjpkmkfaaDoorKey9
namespace Go.Proofs.YtoimdbmjpkmkfaaDoor
open Go.RowKit
set_option linter.unusedVariables false
set_option linter.unusedSimpArgs false

def Key9All (e : Ky) (w : World) (en : Ending) (w' : World) : Prop := ∃ b, en = .returned (.bool b) ∧ (b = true → Keyd e ∧ 1 ≤ e.op ∧ e.op ≤ 21) ∧ Below w.heap.size w w'

set_option maxRecDepth 100000 in
set_option maxHeartbeats 4000000 in
theorem key9_all (e : Ky) (w : World) (hs : e.s.size ≤ 2147483647) : Calls Tryd.prog 6 #[e.val] w (Key9All e w) := by
  obtain ⟨op, s, n, f, b⟩ := e
  have HR := Go.Lib.hid fun w => keyRight_any ⟨op, s, n, f, b⟩ w hs
  unfold Ky.val at HR ⊢
  dsimp only at hs HR ⊢
  have B0 : Hid (Below w.heap.size w (w.alloc (.cells #[.int .i64 op, .string s, .int .i64 n, .bool f, .bool b] 30))) := (Below.refl _ _).alloc (Nat.le_refl _) _
  by_cases h8 : op = 8
  · subst h8
    go_enter Tryd.func6, Tryd.ntmps6
    go_wp2_with fail
    refine (HR.out _).mono ?_
    rintro e w1 ⟨r, rfl, hr, b1⟩
    have c1 := (b1.cell (p := ⟨w.heap.size, 1, none⟩) (by simp)).trans (show _ = some (Value.string s) by simp [go_sem])
    have c2 := (b1.cell (p := ⟨w.heap.size, 2, none⟩) (by simp)).trans (show _ = some (Value.int .i64 n) by simp [go_sem])
    have B1 : Hid (Below w.heap.size w w1) := B0.out.trans (b1.mono (by simp))
    have HRR := Go.Lib.hid hr
    clear b1 hr
    cases r
    · go_wp2_with fail
      go_returns
      exact ⟨false, rfl, (fun h => by cases h), B1.out⟩
    go_wp2_with fail
    refine (ascii9_any s _ hs).mono ?_
    rintro e w2 ⟨q, rfl, hq, rfl⟩
    have HQ := Go.Lib.hid hq
    clear hq
    cases q
    · go_wp2_with fail
      go_returns
      exact ⟨false, rfl, (fun h => by cases h), B1.out⟩
    by_cases n1 : n < 128
    · have N1 := Go.Lib.hid n1
      go_wp2_with fail
      go_returns
      exact ⟨true, rfl, fun _ => ⟨⟨(HQ.out (by trivial)).1, (HRR.out (by trivial)).2.2.1, fun h => ⟨(HRR.out (by trivial)).2.2.2 (by simp), N1.out⟩⟩, (HRR.out (by trivial)).1, (HRR.out (by trivial)).2.1⟩, B1.out⟩
    · have n1' : decide (n < 128) = false := by simpa using n1
      go_wp2_with fail
      go_returns
      exact ⟨false, rfl, (fun h => by cases h), B1.out⟩
  · have h8' : (op == 8) = false := by simpa using h8
    have H8 := Go.Lib.hid h8
    clear h8
    by_cases h19 : op = 19
    · subst h19
      go_enter Tryd.func6, Tryd.ntmps6
      go_wp2_with fail
      refine (HR.out _).mono ?_
      rintro e w1 ⟨r, rfl, hr, b1⟩
      have c1 := (b1.cell (p := ⟨w.heap.size, 1, none⟩) (by simp)).trans (show _ = some (Value.string s) by simp [go_sem])
      have c2 := (b1.cell (p := ⟨w.heap.size, 2, none⟩) (by simp)).trans (show _ = some (Value.int .i64 n) by simp [go_sem])
      have B1 : Hid (Below w.heap.size w w1) := B0.out.trans (b1.mono (by simp))
      have HRR := Go.Lib.hid hr
      clear b1 hr
      cases r
      · go_wp2_with fail
        go_returns
        exact ⟨false, rfl, (fun h => by cases h), B1.out⟩
      go_wp2_with fail
      refine (ascii9_any s _ hs).mono ?_
      rintro e w2 ⟨q, rfl, hq, rfl⟩
      have HQ := Go.Lib.hid hq
      clear hq
      cases q
      · go_wp2_with fail
        go_returns
        exact ⟨false, rfl, (fun h => by cases h), B1.out⟩
      by_cases n1 : n < 128
      · have N1 := Go.Lib.hid n1
        go_wp2_with fail
        go_returns
        exact ⟨true, rfl, fun _ => ⟨⟨(HQ.out (by trivial)).1, (HRR.out (by trivial)).2.2.1, fun h => ⟨(HRR.out (by trivial)).2.2.2 (by simp), N1.out⟩⟩, (HRR.out (by trivial)).1, (HRR.out (by trivial)).2.1⟩, B1.out⟩
      · have n1' : decide (n < 128) = false := by simpa using n1
        go_wp2_with fail
        go_returns
        exact ⟨false, rfl, (fun h => by cases h), B1.out⟩
    · have h19' : (op == 19) = false := by simpa using h19
      have H19 := Go.Lib.hid h19
      clear h19
      go_enter Tryd.func6, Tryd.ntmps6
      go_wp2_with fail
      refine (HR.out _).mono ?_
      rintro e w1 ⟨r, rfl, hr, b1⟩
      have c1 := (b1.cell (p := ⟨w.heap.size, 1, none⟩) (by simp)).trans (show _ = some (Value.string s) by simp [go_sem])
      have c2 := (b1.cell (p := ⟨w.heap.size, 2, none⟩) (by simp)).trans (show _ = some (Value.int .i64 n) by simp [go_sem])
      have B1 : Hid (Below w.heap.size w w1) := B0.out.trans (b1.mono (by simp))
      have HRR := Go.Lib.hid hr
      clear b1 hr
      cases r
      · go_wp2_with fail
        go_returns
        exact ⟨false, rfl, (fun h => by cases h), B1.out⟩
      go_wp2_with fail
      refine (ascii9_any s _ hs).mono ?_
      rintro e w2 ⟨q, rfl, hq, rfl⟩
      have HQ := Go.Lib.hid hq
      clear hq
      cases q
      · go_wp2_with fail
        go_returns
        exact ⟨false, rfl, (fun h => by cases h), B1.out⟩
      go_wp2_with fail
      go_returns
      exact ⟨true, rfl, fun _ => ⟨⟨(HQ.out (by trivial)).1, (HRR.out (by trivial)).2.2.1, fun h => absurd h (fun h => h.elim H8.out H19.out)⟩, (HRR.out (by trivial)).1, (HRR.out (by trivial)).2.1⟩, B1.out⟩
end Go.Proofs.YtoimdbmjpkmkfaaDoor
