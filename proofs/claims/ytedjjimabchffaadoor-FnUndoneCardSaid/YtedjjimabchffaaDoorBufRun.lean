/- A script of edits over a buffer: step, run$1, run, EditedFrom, laws.one7. -/
import Derived.Test.YtedjjimabchffaaDoorBufSwap
import Derived.Test.YtedjjimabchffaaDoorBufDelete
import Derived.Test.YtedjjimabchffaaDoorCaught
namespace Go.Proofs.YtedjjimabchffaaDoor
open Go.RowKit
set_option linter.unusedVariables false
set_option linter.unusedSimpArgs false

/-- An edit: its kind, its number, its text, its flag. -/
structure Ed where
  op : Int
  n : Int
  s : ByteArray
  f : Bool
def Ed.cells (e : Ed) : List Value := [.int .i64 e.op, .int .i64 e.n, .string e.s, .bool e.f]
def Ed.val (e : Ed) : Value := .agg #[.int .i64 e.op, .int .i64 e.n, .string e.s, .bool e.f]

/-- What a step does to a text and a cursor, and what it takes out. -/
def StepPost (bb lb : Nat) (t s' : ByteArray) (k' : Nat) (w : World) (e : Ending) (w' : World) : Prop :=
  e = .returned (.tuple #[.string t, .bool true]) ∧ Buf w' bb lb s' k' ∧ Own bb lb w w'
def StepOk (e : Ed) (s : ByteArray) (k : Nat) (t s' : ByteArray) (k' : Nat) : Prop :=
  ∀ (bb lb : Nat) (w : World), Buf w bb lb s k → Calls Tryd.prog 24 #[.pointer (some ⟨bb, 0, none⟩), e.val] w (StepPost bb lb t s' k' w)

theorem step_insert (s v : ByteArray) (k : Nat) (hs : Wide s) (hv : Wide v) (hk : k ≤ s.size) (n : Int) : StepOk ⟨1, n, v, false⟩ s k ⟨#[]⟩ (s.extract 0 k ++ v ++ s.extract k s.size) (k + v.size) := fun bb lb w h => by
  have H : Hid (Buf (w.alloc (.cells #[.int .i64 1, .int .i64 n, .string v, .bool false] 33)) bb lb s k) := h.below ((Below.refl _ _).alloc (Nat.le_refl _) _)
  clear h
  unfold Ed.val
  go_enter Tryd.func24, Tryd.ntmps24
  go_wp2_with fail
  refine (insert_text bb lb s v k true _ H.out hs hv hk).mono ?_
  rintro e w1 ⟨rfl, h1, b1⟩
  have H1 := Go.Lib.hid h1
  clear h1
  go_wp2_with fail
  go_returns
  exact ⟨rfl, H1.out, ((Own.refl _ _ _).alloc _).trans b1⟩

theorem step_left (s : ByteArray) (k n : Nat) (hs : Small s) (hk : k ≤ s.size) (hn : n ≤ 2000) (v : ByteArray) (f : Bool) : StepOk ⟨3, n, v, f⟩ s k ⟨#[]⟩ s (k - min n (colOf s k)) := fun bb lb w h => by
  have H : Hid (Buf (w.alloc (.cells #[.int .i64 3, .int .i64 n, .string v, .bool f] 33)) bb lb s k) := h.below ((Below.refl _ _).alloc (Nat.le_refl _) _)
  clear h
  unfold Ed.val
  go_enter Tryd.func24, Tryd.ntmps24
  go_wp2_with fail
  refine (cursor_left bb lb s k n _ H.out hs hk hn).mono ?_
  rintro e w1 ⟨rfl, h1, b1⟩
  have H1 := Go.Lib.hid h1
  clear h1
  go_wp2_with fail
  go_returns
  exact ⟨rfl, H1.out, ((Own.refl _ _ _).alloc _).trans b1⟩

theorem step_right (s : ByteArray) (k n : Nat) (hs : Small s) (hk : k ≤ s.size) (v : ByteArray) (f : Bool) : StepOk ⟨4, n, v, f⟩ s k ⟨#[]⟩ s (k + min n (lineA (s.extract k s.size)).size) := fun bb lb w h => by
  have H : Hid (Buf (w.alloc (.cells #[.int .i64 4, .int .i64 n, .string v, .bool f] 33)) bb lb s k) := h.below ((Below.refl _ _).alloc (Nat.le_refl _) _)
  clear h
  unfold Ed.val
  go_enter Tryd.func24, Tryd.ntmps24
  go_wp2_with fail
  refine (cursor_right bb lb s k n _ H.out hs hk).mono ?_
  rintro e w1 ⟨rfl, h1, b1⟩
  have H1 := Go.Lib.hid h1
  clear h1
  go_wp2_with fail
  go_returns
  exact ⟨rfl, H1.out, ((Own.refl _ _ _).alloc _).trans b1⟩

theorem step_before (s : ByteArray) (k n : Nat) (hs : Wide s) (hk : k ≤ s.size) (hn : n ≤ 2000) (v : ByteArray) (f : Bool) : StepOk ⟨7, n, v, f⟩ s k (s.extract (k - n) k) (s.extract 0 (k - n) ++ s.extract k s.size) (k - n) := fun bb lb w h => by
  have H : Hid (Buf (w.alloc (.cells #[.int .i64 7, .int .i64 n, .string v, .bool f] 33)) bb lb s k) := h.below ((Below.refl _ _).alloc (Nat.le_refl _) _)
  clear h
  unfold Ed.val
  go_enter Tryd.func24, Tryd.ntmps24
  go_wp2_with fail
  refine (delete_before bb lb s k n _ H.out hs hk hn).mono ?_
  rintro e w1 ⟨rfl, h1, b1⟩
  have H1 := Go.Lib.hid h1
  clear h1
  go_wp2_with fail
  go_returns
  exact ⟨rfl, H1.out, ((Own.refl _ _ _).alloc _).trans b1⟩

theorem step_behind (s : ByteArray) (k n m : Nat) (hs : Small s) (hk : k < s.size) (hm : m = k + n) (hms : m ≤ s.size) (v : ByteArray) (f : Bool) : StepOk ⟨8, n, v, f⟩ s k (s.extract k m) (s.extract 0 k ++ s.extract m s.size) k := fun bb lb w h => by
  have H : Hid (Buf (w.alloc (.cells #[.int .i64 8, .int .i64 n, .string v, .bool f] 33)) bb lb s k) := h.below ((Below.refl _ _).alloc (Nat.le_refl _) _)
  have HM := Go.Lib.hid hm
  clear h hm
  unfold Ed.val
  go_enter Tryd.func24, Tryd.ntmps24
  go_wp2_with fail
  refine (delete_some bb lb s k n m _ H.out hs hk HM.out hms).mono ?_
  rintro e w1 ⟨rfl, h1, b1⟩
  have H1 := Go.Lib.hid h1
  clear h1
  go_wp2_with fail
  go_returns
  exact ⟨rfl, H1.out, ((Own.refl _ _ _).alloc _).trans b1⟩

theorem step_end (s : ByteArray) (n : Int) (hs : Small s) (v : ByteArray) (f : Bool) : StepOk ⟨8, n, v, f⟩ s s.size ⟨#[]⟩ s s.size := fun bb lb w h => by
  have H : Hid (Buf (w.alloc (.cells #[.int .i64 8, .int .i64 n, .string v, .bool f] 33)) bb lb s s.size) := h.below ((Below.refl _ _).alloc (Nat.le_refl _) _)
  clear h
  unfold Ed.val
  go_enter Tryd.func24, Tryd.ntmps24
  go_wp2_with fail
  refine (delete_end bb lb s n _ H.out hs).mono ?_
  rintro e w1 ⟨rfl, h1, b1⟩
  have H1 := Go.Lib.hid h1
  clear h1
  go_wp2_with fail
  go_returns
  exact ⟨rfl, H1.out, ((Own.refl _ _ _).alloc _).trans b1⟩

theorem step_swap (s : ByteArray) (k : Nat) (hs : Small s) (hk : k ≤ s.size) (n : Int) (v : ByteArray) (f : Bool) : StepOk ⟨11, n, v, f⟩ s k ⟨#[]⟩ (swapped s k) k := fun bb lb w h => by
  have H : Hid (Buf (w.alloc (.cells #[.int .i64 11, .int .i64 n, .string v, .bool f] 33)) bb lb s k) := h.below ((Below.refl _ _).alloc (Nat.le_refl _) _)
  clear h
  unfold Ed.val
  go_enter Tryd.func24, Tryd.ntmps24
  go_wp2_with fail
  refine (swap_any bb lb s k _ H.out hs hk).mono ?_
  rintro e w1 ⟨rfl, h1, b1⟩
  have H1 := Go.Lib.hid h1
  clear h1
  go_wp2_with fail
  go_returns
  exact ⟨rfl, H1.out, ((Own.refl _ _ _).alloc _).trans b1⟩

theorem key_char_some (bb lb : Nat) (s : ByteArray) (k m : Nat) (w : World) (h : Buf w bb lb s k) (hs : Small s) (hk : k < s.size) (hm : m = k + 1) :
    Calls Tryd.prog 41 #[.pointer (some ⟨bb, 0, none⟩), .int .i64 14] w fun e w' => e = .returned (.bool true) ∧ Buf w' bb lb (s.extract 0 k ++ s.extract m s.size) k ∧ Own bb lb w w' := by
  have H := Go.Lib.hid h
  have HM := Go.Lib.hid hm
  clear h hm
  go_enter Tryd.func41, Tryd.ntmps41
  go_wp2_with fail
  have hD : Calls Tryd.prog 60 #[.pointer (some ⟨bb, 0, none⟩)] w fun e w' => e = .returned (.tuple #[]) ∧ Buf w' bb lb (s.extract 0 k ++ s.extract m s.size) k ∧ Own bb lb w w' := by
    go_enter Tryd.func60, Tryd.ntmps60
    go_wp2_with fail
    refine (delete_some bb lb s k 1 m _ H.out hs hk HM.out (by have := HM.out; omega)).mono ?_
    rintro e w1 ⟨rfl, h1, b1⟩
    have H1 := Go.Lib.hid h1
    clear h1
    go_wp2_with fail
    go_returns
    exact ⟨rfl, H1.out, b1⟩
  refine hD.mono ?_
  clear hD
  rintro e w1 ⟨rfl, h1, b1⟩
  have H1 := Go.Lib.hid h1
  clear h1
  go_wp2_with fail
  go_returns
  exact ⟨rfl, H1.out, b1⟩

theorem key_char_end (bb lb : Nat) (s : ByteArray) (w : World) (h : Buf w bb lb s s.size) (hs : Small s) :
    Calls Tryd.prog 41 #[.pointer (some ⟨bb, 0, none⟩), .int .i64 14] w fun e w' => e = .returned (.bool true) ∧ Buf w' bb lb s s.size ∧ Own bb lb w w' := by
  have H := Go.Lib.hid h
  clear h
  go_enter Tryd.func41, Tryd.ntmps41
  go_wp2_with fail
  have hD : Calls Tryd.prog 60 #[.pointer (some ⟨bb, 0, none⟩)] w fun e w' => e = .returned (.tuple #[]) ∧ Buf w' bb lb s s.size ∧ Own bb lb w w' := by
    go_enter Tryd.func60, Tryd.ntmps60
    go_wp2_with fail
    refine (delete_end bb lb s 1 _ H.out hs).mono ?_
    rintro e w1 ⟨rfl, h1, b1⟩
    have H1 := Go.Lib.hid h1
    clear h1
    go_wp2_with fail
    go_returns
    exact ⟨rfl, H1.out, b1⟩
  refine hD.mono ?_
  clear hD
  rintro e w1 ⟨rfl, h1, b1⟩
  have H1 := Go.Lib.hid h1
  clear h1
  go_wp2_with fail
  go_returns
  exact ⟨rfl, H1.out, b1⟩

theorem key_back (bb lb : Nat) (s : ByteArray) (k : Nat) (w : World) (h : Buf w bb lb s k) (hs : Wide s) (hk : k ≤ s.size) :
    Calls Tryd.prog 41 #[.pointer (some ⟨bb, 0, none⟩), .int .i64 16] w fun e w' => e = .returned (.bool true) ∧ Buf w' bb lb (s.extract 0 (k - 1) ++ s.extract k s.size) (k - 1) ∧ Own bb lb w w' := by
  have H := Go.Lib.hid h
  clear h
  go_enter Tryd.func41, Tryd.ntmps41
  go_wp2_with fail
  have hD : Calls Tryd.prog 62 #[.pointer (some ⟨bb, 0, none⟩)] w fun e w' => e = .returned (.tuple #[]) ∧ Buf w' bb lb (s.extract 0 (k - 1) ++ s.extract k s.size) (k - 1) ∧ Own bb lb w w' := by
    go_enter Tryd.func62, Tryd.ntmps62
    go_wp2_with fail
    refine (delete_before bb lb s k 1 _ H.out hs hk (by omega)).mono ?_
    rintro e w1 ⟨rfl, h1, b1⟩
    have H1 := Go.Lib.hid h1
    clear h1
    go_wp2_with fail
    go_returns
    exact ⟨rfl, H1.out, b1⟩
  refine hD.mono ?_
  clear hD
  rintro e w1 ⟨rfl, h1, b1⟩
  have H1 := Go.Lib.hid h1
  clear h1
  go_wp2_with fail
  go_returns
  exact ⟨rfl, H1.out, b1⟩

/-- A step by a key. -/
theorem step_key (op : Int) (hop : op = 14 ∨ op = 16) (s s' : ByteArray) (k k' : Nat)
    (hk : ∀ (bb lb : Nat) (w : World), Buf w bb lb s k → Calls Tryd.prog 41 #[.pointer (some ⟨bb, 0, none⟩), .int .i64 op] w fun e w' => e = .returned (.bool true) ∧ Buf w' bb lb s' k' ∧ Own bb lb w w')
    (n : Int) (v : ByteArray) (f : Bool) : StepOk ⟨op, n, v, f⟩ s k ⟨#[]⟩ s' k' := fun bb lb w h => by
  have H : Hid (Buf (w.alloc (.cells #[.int .i64 op, .int .i64 n, .string v, .bool f] 33)) bb lb s k) := h.below ((Below.refl _ _).alloc (Nat.le_refl _) _)
  have HK := Go.Lib.hid hk
  clear h hk
  unfold Ed.val
  rcases hop with rfl | rfl
  all_goals (
    go_enter Tryd.func24, Tryd.ntmps24
    go_wp2_with fail
    refine (HK.out bb lb _ H.out).mono ?_
    rintro e w1 ⟨rfl, h1, b1⟩
    have H1 := Go.Lib.hid h1
    clear h1
    go_wp2_with fail
    go_returns
    exact ⟨rfl, H1.out, ((Own.refl _ _ _).alloc _).trans b1⟩)
end Go.Proofs.YtedjjimabchffaaDoor
