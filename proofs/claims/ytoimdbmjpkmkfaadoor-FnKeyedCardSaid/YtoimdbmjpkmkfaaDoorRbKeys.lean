/- impl.keyed at each kind of step (printed by wip/gen/mkrbkeys.py). -/
import Derived.Test.YtoimdbmjpkmkfaaDoorRbMethods
namespace Go.Proofs.YtoimdbmjpkmkfaaDoor
open Go.RowKit
set_option linter.unusedVariables false
set_option linter.unusedSimpArgs false

/-- A step: its kind, its text, its number, its flags. -/
structure Ky where
  op : Int
  s : ByteArray
  n : Int
  f : Bool
  b : Bool
def Ky.cells (e : Ky) : List Value := [.int .i64 e.op, .string e.s, .int .i64 e.n, .bool e.f, .bool e.b]
def Ky.val (e : Ky) : Value := .agg #[.int .i64 e.op, .string e.s, .int .i64 e.n, .bool e.f, .bool e.b]
/-- What a step does to a line, and what it tells. -/
def KeyPost (rb : Nat) (m : Int) (l' : List Int) (k' : Nat) (kept' : List Int) (w : World) (e : Ending) (w' : World) : Prop :=
  e = .returned (.tuple #[.int .i64 m, .bool true]) ∧ RB w' rb l' k' kept' ∧ Own rb w w'
def KeyOk (e : Ky) (l : List Int) (k : Nat) (kept : List Int) (m : Int) (l' : List Int) (k' : Nat) (kept' : List Int) : Prop :=
  ∀ (rb : Nat) (w : World), RB w rb l k kept → Calls Tryd.prog 23 #[.pointer (some ⟨rb, 0, none⟩), e.val] w (KeyPost rb m l' k' kept' w)

theorem told_true (w : World) : Calls Tryd.prog 38 #[.bool true] w fun e w' => e = .returned (.int .i64 1) ∧ w = w' := by
  go_enter Tryd.func38, Tryd.ntmps38
  go_wp2_with fail
  go_returns
  exact ⟨rfl, rfl⟩
theorem told_false (w : World) : Calls Tryd.prog 38 #[.bool false] w fun e w' => e = .returned (.int .i64 0) ∧ w = w' := by
  go_enter Tryd.func38, Tryd.ntmps38
  go_wp2_with fail
  go_returns
  exact ⟨rfl, rfl⟩

theorem key_write (l : List Int) (k : Nat) (kept : List Int) (hk : k ≤ l.length) (hl : l.length ≤ 100000) (s : ByteArray) (hs : s.size ≤ 100000) (n : Int) (f b : Bool) : KeyOk ⟨1, s, n, f, b⟩ l k kept (-1) (l.take k ++ (runes s ++ l.drop k)) (k + (runes s).length) kept := fun rb w h => by
  have H : Hid (RB (w.alloc (.cells #[.int .i64 1, .string s, .int .i64 n, .bool f, .bool b] 30)) rb l k kept) := h.below ((Below.refl _ _).alloc (Nat.le_refl _) _)
  clear h
  unfold Ky.val
  go_enter Tryd.func23, Tryd.ntmps23
  go_wp2_with fail
  refine (write_string rb l k kept s _ H.out hk hl hs).mono ?_
  rintro e w1 ⟨rfl, h1, o1⟩
  have H1 := Go.Lib.hid h1
  clear h1
  go_wp2_with fail
  go_returns
  exact ⟨rfl, H1.out, ((Own.refl _ _).alloc _).trans o1⟩

theorem key_forward (l : List Int) (k : Nat) (kept : List Int) (hk : k ≤ l.length) (hl : l.length ≤ 100000) (s : ByteArray) (n : Int) (f b : Bool) : KeyOk ⟨2, s, n, f, b⟩ l k kept (-1) l (min (k + 1) l.length) kept := fun rb w h => by
  have H : Hid (RB (w.alloc (.cells #[.int .i64 2, .string s, .int .i64 n, .bool f, .bool b] 30)) rb l k kept) := h.below ((Below.refl _ _).alloc (Nat.le_refl _) _)
  clear h
  unfold Ky.val
  go_enter Tryd.func23, Tryd.ntmps23
  go_wp2_with fail
  refine (forward_any rb l k kept _ H.out hk hl).mono ?_
  rintro e w1 ⟨rfl, h1, o1⟩
  have H1 := Go.Lib.hid h1
  clear h1
  go_wp2_with fail
  go_returns
  exact ⟨rfl, H1.out, ((Own.refl _ _).alloc _).trans o1⟩

theorem key_backward (l : List Int) (k : Nat) (kept : List Int) (hk : k ≤ l.length) (hl : l.length ≤ 100000) (s : ByteArray) (n : Int) (f b : Bool) : KeyOk ⟨3, s, n, f, b⟩ l k kept (-1) l (k - 1) kept := fun rb w h => by
  have H : Hid (RB (w.alloc (.cells #[.int .i64 3, .string s, .int .i64 n, .bool f, .bool b] 30)) rb l k kept) := h.below ((Below.refl _ _).alloc (Nat.le_refl _) _)
  clear h
  unfold Ky.val
  go_enter Tryd.func23, Tryd.ntmps23
  go_wp2_with fail
  refine (backward_any rb l k kept _ H.out hk hl).mono ?_
  rintro e w1 ⟨rfl, h1, o1⟩
  have H1 := Go.Lib.hid h1
  clear h1
  go_wp2_with fail
  go_returns
  exact ⟨rfl, H1.out, ((Own.refl _ _).alloc _).trans o1⟩

theorem key_delete (l : List Int) (k : Nat) (kept : List Int) (hk : k ≤ l.length) (hl : l.length ≤ 100000) (hk1 : k < l.length) (s : ByteArray) (n : Int) (f b : Bool) : KeyOk ⟨6, s, n, f, b⟩ l k kept (1) (cutAt l k) k ((l.take (k + 1)).drop k) := fun rb w h => by
  have H : Hid (RB (w.alloc (.cells #[.int .i64 6, .string s, .int .i64 n, .bool f, .bool b] 30)) rb l k kept) := h.below ((Below.refl _ _).alloc (Nat.le_refl _) _)
  clear h
  unfold Ky.val
  go_enter Tryd.func23, Tryd.ntmps23
  go_wp2_with fail
  refine (delete_any rb l k kept _ H.out hk1 hl).mono ?_
  rintro e w1 ⟨rfl, h1, o1⟩
  have H1 := Go.Lib.hid h1
  clear h1
  go_wp2_with fail
  refine (told_true _).mono ?_
  rintro e w2 ⟨rfl, rfl⟩
  go_wp2_with fail
  go_returns
  exact ⟨rfl, H1.out, ((Own.refl _ _).alloc _).trans o1⟩

theorem key_backspace (l : List Int) (k : Nat) (kept : List Int) (hk : k ≤ l.length) (hl : l.length ≤ 100000) (hk0 : 0 < k) (s : ByteArray) (n : Int) (f b : Bool) : KeyOk ⟨7, s, n, f, b⟩ l k kept (-1) (cutAt l (k - 1)) (k - 1) kept := fun rb w h => by
  have H : Hid (RB (w.alloc (.cells #[.int .i64 7, .string s, .int .i64 n, .bool f, .bool b] 30)) rb l k kept) := h.below ((Below.refl _ _).alloc (Nat.le_refl _) _)
  clear h
  unfold Ky.val
  go_enter Tryd.func23, Tryd.ntmps23
  go_wp2_with fail
  refine (backspace_any rb l k kept _ H.out hk hk0 hl).mono ?_
  rintro e w1 ⟨rfl, h1, o1⟩
  have H1 := Go.Lib.hid h1
  clear h1
  go_wp2_with fail
  go_returns
  exact ⟨rfl, H1.out, ((Own.refl _ _).alloc _).trans o1⟩

theorem key_reset (l : List Int) (k : Nat) (kept : List Int) (hk : k ≤ l.length) (hl : l.length ≤ 100000) (s : ByteArray) (n : Int) (f b : Bool) : KeyOk ⟨21, s, n, f, b⟩ l k kept (-1) [] 0 kept := fun rb w h => by
  have H : Hid (RB (w.alloc (.cells #[.int .i64 21, .string s, .int .i64 n, .bool f, .bool b] 30)) rb l k kept) := h.below ((Below.refl _ _).alloc (Nat.le_refl _) _)
  clear h
  unfold Ky.val
  go_enter Tryd.func23, Tryd.ntmps23
  go_wp2_with fail
  refine (reset_any rb l k kept _ H.out hl).mono ?_
  rintro e w1 ⟨v, rfl, h1, o1⟩
  have H1 := Go.Lib.hid h1
  clear h1
  go_wp2_with fail
  go_returns
  exact ⟨rfl, H1.out, ((Own.refl _ _).alloc _).trans o1⟩

theorem key_kill (l : List Int) (k : Nat) (kept : List Int) (hk : k ≤ l.length) (hl : l.length ≤ 100000) (s : ByteArray) (n : Int) (f b : Bool) : KeyOk ⟨15, s, n, f, b⟩ l k kept (-1) (l.take k) k (l.drop k) := fun rb w h => by
  have H : Hid (RB (w.alloc (.cells #[.int .i64 15, .string s, .int .i64 n, .bool f, .bool b] 30)) rb l k kept) := h.below ((Below.refl _ _).alloc (Nat.le_refl _) _)
  have HW : Hid (∀ W, RB W rb l k kept → Calls Tryd.prog 46 #[.pointer (some ⟨rb, 0, none⟩), .int .i64 15] W fun e w' => e = .returned (.tuple #[.int .i64 (-1), .bool true]) ∧ RB w' rb (l.take k) k (l.drop k) ∧ Own rb W w') := fun W h => by
    have H := Go.Lib.hid h
    clear h
    go_enter Tryd.func46, Tryd.ntmps46
    go_wp2_with fail
    refine (kill_any rb l k kept _ H.out hk hl).mono ?_
    rintro e w1 ⟨rfl, h1, o1⟩
    have H1 := Go.Lib.hid h1
    clear h1
    go_wp2_with fail
    go_returns
    exact ⟨rfl, H1.out, o1⟩
  clear h
  unfold Ky.val
  go_enter Tryd.func23, Tryd.ntmps23
  go_wp2_with fail
  refine (HW.out _ H.out).mono ?_
  rintro e w1 ⟨rfl, h1, o1⟩
  have H1 := Go.Lib.hid h1
  clear h1
  go_wp2_with fail
  go_returns
  exact ⟨rfl, H1.out, ((Own.refl _ _).alloc _).trans o1⟩

theorem key_yank (l : List Int) (k : Nat) (kept : List Int) (hk : k ≤ l.length) (hl : l.length ≤ 100000) (hkl : kept.length ≤ 100000) (hk0 : 0 < kept.length) (s : ByteArray) (n : Int) (f b : Bool) : KeyOk ⟨17, s, n, f, b⟩ l k kept (-1) (l.take k ++ kept ++ l.drop k) (k + kept.length) kept := fun rb w h => by
  have H : Hid (RB (w.alloc (.cells #[.int .i64 17, .string s, .int .i64 n, .bool f, .bool b] 30)) rb l k kept) := h.below ((Below.refl _ _).alloc (Nat.le_refl _) _)
  have HW : Hid (∀ W, RB W rb l k kept → Calls Tryd.prog 46 #[.pointer (some ⟨rb, 0, none⟩), .int .i64 17] W fun e w' => e = .returned (.tuple #[.int .i64 (-1), .bool true]) ∧ RB w' rb (l.take k ++ kept ++ l.drop k) (k + kept.length) kept ∧ Own rb W w') := fun W h => by
    have H := Go.Lib.hid h
    clear h
    go_enter Tryd.func46, Tryd.ntmps46
    go_wp2_with fail
    refine (yank_any rb l k kept _ H.out hk hkl hk0 hl).mono ?_
    rintro e w1 ⟨rfl, h1, o1⟩
    have H1 := Go.Lib.hid h1
    clear h1
    go_wp2_with fail
    go_returns
    exact ⟨rfl, H1.out, o1⟩
  clear h
  unfold Ky.val
  go_enter Tryd.func23, Tryd.ntmps23
  go_wp2_with fail
  refine (HW.out _ H.out).mono ?_
  rintro e w1 ⟨rfl, h1, o1⟩
  have H1 := Go.Lib.hid h1
  clear h1
  go_wp2_with fail
  go_returns
  exact ⟨rfl, H1.out, ((Own.refl _ _).alloc _).trans o1⟩

theorem key_set (l : List Int) (k : Nat) (kept : List Int) (s : ByteArray) (hs : s.size ≤ 100000) (i : Nat) (hi : i ≤ (runes s).length) (f b : Bool) : KeyOk ⟨20, s, i, f, b⟩ l k kept (-1) (runes s) i kept := fun rb w h => by
  have H0 : RB (w.alloc (.cells #[.int .i64 20, .string s, .int .i64 (i : Nat), .bool f, .bool b] 30)) rb l k kept := h.below ((Below.refl _ _).alloc (Nat.le_refl _) _)
  obtain ⟨A, cap, B, cap2, hv⟩ := H0
  obtain ⟨cap3, W, hcv, hrow, hb⟩ := row_runes (w.alloc (.cells #[.int .i64 20, .string s, .int .i64 (i : Nat), .bool f, .bool b] 30)) (rb + 1) s hs (by have := hv.sz; omega)
  have HV : Hid (RBv W rb l k kept A cap B cap2) := hv.below hb
  have O1 : Hid (Own rb w W) := ((Own.refl rb w).alloc _).after hb
  have HR := Go.Lib.hid hrow
  have HAP : Hid (∀ g, blk (some ⟨(w.alloc (.cells #[.int .i64 20, .string s, .int .i64 (i : Nat), .bool f, .bool b] 30)).heap.size, 0, none⟩) = some g → blk B ≠ some g) := fun g hg e' => by
    have e : (w.alloc (.cells #[.int .i64 20, .string s, .int .i64 (i : Nat), .bool f, .bool b] 30)).heap.size = g := by simpa [blk] using hg
    have := (hv.r10.blk_lt e').2.1; omega
  have c2 : W.cell? ⟨w.heap.size, 2, none⟩ = some (.int .i64 (i : Nat)) := (hb.cell (p := ⟨w.heap.size, 2, none⟩) (by simp)).trans (by simp [go_sem])
  rw [show (w.alloc (.cells #[.int .i64 20, .string s, .int .i64 (i : Nat), .bool f, .bool b] 30)).heap.size = w.heap.size + 1 by simp] at hcv HR HAP
  have h0 : ((i : Int) < 0) = False := by simp
  have h1 : ((i : Int) > ((runes s).length : Int)) = False := by simp; omega
  have hd0 : decide ((i : Int) < 0) = false := by simp
  have hd1 : decide (((runes s).length : Int) < (i : Int)) = false := by simp; omega
  clear hv hrow hb h
  unfold Ky.val
  go_enter Tryd.func23, Tryd.ntmps23
  go_wp2_with fail
  refine (set_any rb l k kept (runes s) i _ cap3 W A cap B cap2 HV.out HR.out HAP.out).mono ?_
  rintro e w1 ⟨rfl, h1, o1⟩
  have H1 := Go.Lib.hid h1
  clear h1
  go_wp2_with fail
  go_returns
  exact ⟨rfl, H1.out, O1.out.trans o1⟩
end Go.Proofs.YtoimdbmjpkmkfaaDoor
