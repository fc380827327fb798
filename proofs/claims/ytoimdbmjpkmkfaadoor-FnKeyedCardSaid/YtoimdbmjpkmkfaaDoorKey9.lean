/- spec.KeyRight, laws.key9. -/
import Derived.Test.YtoimdbmjpkmkfaaDoorOneNine
import Derived.Test.YtoimdbmjpkmkfaaDoorWholeOnly
namespace Go.Proofs.YtoimdbmjpkmkfaaDoor
open Go.RowKit
set_option linter.unusedVariables false
set_option linter.unusedSimpArgs false

def RightPost (e : Ky) (w : World) (en : Ending) (w' : World) : Prop := ∃ b, en = .returned (.bool b) ∧ (b = true → 1 ≤ e.op ∧ e.op ≤ 21 ∧ e.s.size ≤ 100 ∧ (e.op = 8 ∨ e.op = 19 → 0 < e.n)) ∧ Below w.heap.size w w'

set_option maxRecDepth 100000 in
set_option maxHeartbeats 4000000 in
theorem keyRight_any (e : Ky) (w : World) (hs : e.s.size ≤ 2147483647) : Calls Tryd.prog 13 #[e.val] w (RightPost e w) := by
  obtain ⟨op, s, n, f, b⟩ := e
  unfold Ky.val
  dsimp only at hs ⊢
  have B0 : Hid (Below w.heap.size w (w.alloc (.cells #[.int .i64 op, .string s, .int .i64 n, .bool f, .bool b] 30))) := (Below.refl _ _).alloc (Nat.le_refl _) _
  by_cases a1 : op < 1
  · go_enter Tryd.func13, Tryd.ntmps13
    go_wp2_with fail
    go_returns
    exact ⟨false, rfl, (fun h => by cases h), B0.out⟩
  have a1' : decide (op < 1) = false := by simpa using a1
  by_cases a2 : 21 < op
  · go_enter Tryd.func13, Tryd.ntmps13
    go_wp2_with fail
    go_returns
    exact ⟨false, rfl, (fun h => by cases h), B0.out⟩
  have a2' : decide (21 < op) = false := by simpa using a2
  by_cases a3 : (100 : Int) < s.size
  · go_enter Tryd.func13, Tryd.ntmps13
    go_wp2_with fail
    go_returns
    exact ⟨false, rfl, (fun h => by cases h), B0.out⟩
  have a3' : decide ((100 : Int) < s.size) = false := by simpa using a3
  go_enter Tryd.func13, Tryd.ntmps13
  go_wp2_with fail
  refine (whole_any s _ hs).mono ?_
  rintro e w1 ⟨r, rfl, -, b1⟩
  have c0 := (b1.cell (p := ⟨w.heap.size, 0, none⟩) (by simp)).trans (show _ = some (Value.int .i64 op) by simp [go_sem])
  have c2 := (b1.cell (p := ⟨w.heap.size, 2, none⟩) (by simp)).trans (show _ = some (Value.int .i64 n) by simp [go_sem])
  have B1 : Hid (Below w.heap.size w w1) := B0.out.trans (b1.mono (by simp))
  clear b1
  cases r
  · go_wp2_with fail
    go_returns
    exact ⟨false, rfl, (fun h => by cases h), B1.out⟩
  have HOP : Hid (1 ≤ op ∧ op ≤ 21 ∧ s.size ≤ 100) := ⟨by omega, by omega, by omega⟩
  have fin : ∀ (h8 : op = 8 ∨ op = 19), True := fun _ => trivial
  by_cases h8 : op = 8
  · subst h8
    by_cases n0 : 0 < n
    · have N0 := Go.Lib.hid n0
      by_cases n1 : n ≤ 1114111
      · by_cases n2 : n < 55296
        · go_wp2_with fail
          go_returns
          exact ⟨true, rfl, fun _ => ⟨HOP.out.1, HOP.out.2.1, HOP.out.2.2, fun _ => N0.out⟩, B1.out⟩
        · have n2' : decide (n < 55296) = false := by simpa using n2
          go_wp2_with fail
          go_returns
          exact ⟨_, rfl, fun _ => ⟨HOP.out.1, HOP.out.2.1, HOP.out.2.2, fun _ => N0.out⟩, B1.out⟩
      · have n1' : decide (n ≤ 1114111) = false := by simpa using n1
        go_wp2_with fail
        go_returns
        exact ⟨false, rfl, (fun h => by cases h), B1.out⟩
    · have n0' : decide (0 < n) = false := by simpa using n0
      go_wp2_with fail
      go_returns
      exact ⟨false, rfl, (fun h => by cases h), B1.out⟩
  · have h8' : (op == 8) = false := by simpa using h8
    by_cases h19 : op = 19
    · subst h19
      by_cases n0 : 0 < n
      · have N0 := Go.Lib.hid n0
        by_cases n1 : n ≤ 1114111
        · by_cases n2 : n < 55296
          · go_wp2_with fail
            go_returns
            exact ⟨true, rfl, fun _ => ⟨HOP.out.1, HOP.out.2.1, HOP.out.2.2, fun _ => N0.out⟩, B1.out⟩
          · have n2' : decide (n < 55296) = false := by simpa using n2
            go_wp2_with fail
            go_returns
            exact ⟨_, rfl, fun _ => ⟨HOP.out.1, HOP.out.2.1, HOP.out.2.2, fun _ => N0.out⟩, B1.out⟩
        · have n1' : decide (n ≤ 1114111) = false := by simpa using n1
          go_wp2_with fail
          go_returns
          exact ⟨false, rfl, (fun h => by cases h), B1.out⟩
      · have n0' : decide (0 < n) = false := by simpa using n0
        go_wp2_with fail
        go_returns
        exact ⟨false, rfl, (fun h => by cases h), B1.out⟩
    · have h19' : (op == 19) = false := by simpa using h19
      have H8 := Go.Lib.hid h8
      have H19 := Go.Lib.hid h19
      clear h8 h19
      go_wp2_with fail
      go_returns
      exact ⟨true, rfl, fun _ => ⟨HOP.out.1, HOP.out.2.1, HOP.out.2.2, fun h => absurd h (fun h => h.elim H8.out H19.out)⟩, B1.out⟩

set_option maxRecDepth 100000 in
set_option maxHeartbeats 4000000 in
theorem key9_any (e : Ky) (w : World) (hs : e.s.size ≤ 2147483647) : Calls Tryd.prog 6 #[e.val] w (Key9Post e w) := by
  obtain ⟨op, s, n, f, b⟩ := e
  have HR := Go.Lib.hid fun w => keyRight_any ⟨op, s, n, f, b⟩ w hs
  unfold Ky.val at HR ⊢
  dsimp only at hs HR ⊢
  have B0 : Hid (Below w.heap.size w (w.alloc (.cells #[.int .i64 op, .string s, .int .i64 n, .bool f, .bool b] 30))) := (Below.refl _ _).alloc (Nat.le_refl _) _
  by_cases h8 : op = 8
  · subst h8
    go_enter Tryd.func6, Tryd.ntmps6
    go_wp2_with fail
    refine (HR.out _).mono ?_
    rintro e w1 ⟨r, rfl, hr, b1⟩
    have c1 := (b1.cell (p := ⟨w.heap.size, 1, none⟩) (by simp)).trans (show _ = some (Value.string s) by simp [go_sem])
    have c2 := (b1.cell (p := ⟨w.heap.size, 2, none⟩) (by simp)).trans (show _ = some (Value.int .i64 n) by simp [go_sem])
    have B1 : Hid (Below w.heap.size w w1) := B0.out.trans (b1.mono (by simp))
    have HRR := Go.Lib.hid hr
    clear b1 hr
    cases r
    · go_wp2_with fail
      go_returns
      exact ⟨false, rfl, (fun h => by cases h), B1.out⟩
    go_wp2_with fail
    refine (ascii9_any s _ hs).mono ?_
    rintro e w2 ⟨q, rfl, hq, rfl⟩
    have HQ := Go.Lib.hid hq
    clear hq
    cases q
    · go_wp2_with fail
      go_returns
      exact ⟨false, rfl, (fun h => by cases h), B1.out⟩
    by_cases n1 : n < 128
    · have N1 := Go.Lib.hid n1
      go_wp2_with fail
      go_returns
      exact ⟨true, rfl, fun _ => ⟨(HQ.out (by trivial)).1, (HRR.out (by trivial)).2.2.1, fun h => ⟨(HRR.out (by trivial)).2.2.2 (by simp), N1.out⟩⟩, B1.out⟩
    · have n1' : decide (n < 128) = false := by simpa using n1
      go_wp2_with fail
      go_returns
      exact ⟨false, rfl, (fun h => by cases h), B1.out⟩
  · have h8' : (op == 8) = false := by simpa using h8
    have H8 := Go.Lib.hid h8
    clear h8
    by_cases h19 : op = 19
    · subst h19
      go_enter Tryd.func6, Tryd.ntmps6
      go_wp2_with fail
      refine (HR.out _).mono ?_
      rintro e w1 ⟨r, rfl, hr, b1⟩
      have c1 := (b1.cell (p := ⟨w.heap.size, 1, none⟩) (by simp)).trans (show _ = some (Value.string s) by simp [go_sem])
      have c2 := (b1.cell (p := ⟨w.heap.size, 2, none⟩) (by simp)).trans (show _ = some (Value.int .i64 n) by simp [go_sem])
      have B1 : Hid (Below w.heap.size w w1) := B0.out.trans (b1.mono (by simp))
      have HRR := Go.Lib.hid hr
      clear b1 hr
      cases r
      · go_wp2_with fail
        go_returns
        exact ⟨false, rfl, (fun h => by cases h), B1.out⟩
      go_wp2_with fail
      refine (ascii9_any s _ hs).mono ?_
      rintro e w2 ⟨q, rfl, hq, rfl⟩
      have HQ := Go.Lib.hid hq
      clear hq
      cases q
      · go_wp2_with fail
        go_returns
        exact ⟨false, rfl, (fun h => by cases h), B1.out⟩
      by_cases n1 : n < 128
      · have N1 := Go.Lib.hid n1
        go_wp2_with fail
        go_returns
        exact ⟨true, rfl, fun _ => ⟨(HQ.out (by trivial)).1, (HRR.out (by trivial)).2.2.1, fun h => ⟨(HRR.out (by trivial)).2.2.2 (by simp), N1.out⟩⟩, B1.out⟩
      · have n1' : decide (n < 128) = false := by simpa using n1
        go_wp2_with fail
        go_returns
        exact ⟨false, rfl, (fun h => by cases h), B1.out⟩
    · have h19' : (op == 19) = false := by simpa using h19
      have H19 := Go.Lib.hid h19
      clear h19
      go_enter Tryd.func6, Tryd.ntmps6
      go_wp2_with fail
      refine (HR.out _).mono ?_
      rintro e w1 ⟨r, rfl, hr, b1⟩
      have c1 := (b1.cell (p := ⟨w.heap.size, 1, none⟩) (by simp)).trans (show _ = some (Value.string s) by simp [go_sem])
      have c2 := (b1.cell (p := ⟨w.heap.size, 2, none⟩) (by simp)).trans (show _ = some (Value.int .i64 n) by simp [go_sem])
      have B1 : Hid (Below w.heap.size w w1) := B0.out.trans (b1.mono (by simp))
      have HRR := Go.Lib.hid hr
      clear b1 hr
      cases r
      · go_wp2_with fail
        go_returns
        exact ⟨false, rfl, (fun h => by cases h), B1.out⟩
      go_wp2_with fail
      refine (ascii9_any s _ hs).mono ?_
      rintro e w2 ⟨q, rfl, hq, rfl⟩
      have HQ := Go.Lib.hid hq
      clear hq
      cases q
      · go_wp2_with fail
        go_returns
        exact ⟨false, rfl, (fun h => by cases h), B1.out⟩
      go_wp2_with fail
      go_returns
      exact ⟨true, rfl, fun _ => ⟨(HQ.out (by trivial)).1, (HRR.out (by trivial)).2.2.1, fun h => absurd h (fun h => h.elim H8.out H19.out)⟩, B1.out⟩
end Go.Proofs.YtoimdbmjpkmkfaaDoor
