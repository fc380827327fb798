/- GetCursorLeftPosition, GetCursorRightPosition, CursorLeft, CursorRight: at no step below zero. -/
import Derived.Test.YtedjjimabchffaaDoorBufDoc
namespace Go.Proofs.YtedjjimabchffaaDoor
open Go.RowKit
set_option linter.unusedVariables false
set_option linter.unusedSimpArgs false

/-- The column of a place. -/
def colOf (s : ByteArray) (k : Nat) : Nat := k - startOf (lines s) (nl s k)
theorem colOf_le (s : ByteArray) (k : Nat) : colOf s k ≤ k := Nat.sub_le _ _

theorem left_pos (b : Nat) (s : ByteArray) (k n : Nat) (w : World) (hd : DocAt w b s k) (hs : Small s) (hk : k ≤ s.size) (hn : n ≤ 2000) :
    Calls Tryd.prog 47 #[.pointer (some ⟨b, 0, none⟩), .int .i64 (n : Nat)] w fun e w' => e = .returned (.int .i64 (-((min n (colOf s k) : Nat) : Int))) ∧ Below w.heap.size w w' := by
  have HD := Go.Lib.hid hd
  clear hd
  have hc := colOf_le s k
  have hsz := hs.2
  have HC := Go.Lib.hid (fun (w' : World) (hb : Below w.heap.size w w') => col_any b s k w' (HD.out.below hb) hs hk)
  obtain ⟨C, hC⟩ : ∃ C, C = colOf s k := ⟨_, rfl⟩
  have HQ : Hid (∀ w', Below w.heap.size w w' → Calls Tryd.prog 49 #[.pointer (some ⟨b, 0, none⟩)] w' fun e w'' => e = .returned (.int .i64 (C : Nat)) ∧ Below w'.heap.size w' w'') := fun w' hb => by rw [hC]; exact HC.out w' hb
  rw [← hC] at hc ⊢
  clear HC hC
  have hw1 : IntKind.i64.wrap (-(C : Int)) = -(C : Int) := IntWalk.i64_in _ (by omega)
  have hw2 : IntKind.i64.wrap (-(n : Int)) = -(n : Int) := IntWalk.i64_in _ (by omega)
  have hn0 : ¬ (n : Int) < 0 := by omega
  by_cases h : (n : Int) < C
  · rw [Nat.min_eq_left (by omega)]
    go_enter Tryd.func47, Tryd.ntmps47
    go_wp2_with fail
    refine (HQ.out w (Below.refl _ _)).mono ?_
    rintro e w1 ⟨rfl, b1⟩
    go_wp2_with fail
    go_returns
    exact ⟨rfl, b1⟩
  · rw [Nat.min_eq_right (by omega)]
    go_enter Tryd.func47, Tryd.ntmps47
    go_wp2_with fail
    refine (HQ.out w (Below.refl _ _)).mono ?_
    rintro e w1 ⟨rfl, b1⟩
    go_wp2_with fail
    refine (HQ.out w1 b1).mono ?_
    rintro e w2 ⟨rfl, b2⟩
    go_wp2_with fail
    go_returns
    exact ⟨rfl, b1.trans (b2.mono b1.size)⟩

theorem right_pos (b : Nat) (s : ByteArray) (k n : Nat) (w : World) (hd : DocAt w b s k) (hs : Small s) (hk : k ≤ s.size) :
    Calls Tryd.prog 48 #[.pointer (some ⟨b, 0, none⟩), .int .i64 (n : Nat)] w fun e w' => e = .returned (.int .i64 ((min n (lineA (s.extract k s.size)).size : Nat) : Nat)) ∧ Below w.heap.size w w' := by
  have HD := Go.Lib.hid hd
  clear hd
  have HC := Go.Lib.hid (fun (w' : World) (hb : Below w.heap.size w w') => line_after b s k w' (HD.out.below hb) hs hk)
  obtain ⟨C, hC⟩ : ∃ C, C = lineA (s.extract k s.size) := ⟨_, rfl⟩
  have HQ : Hid (∀ w', Below w.heap.size w w' → Calls Tryd.prog 68 #[.pointer (some ⟨b, 0, none⟩)] w' fun e w'' => e = .returned (.string C) ∧ Below w'.heap.size w' w'') := fun w' hb => by rw [hC]; exact HC.out w' hb
  rw [← hC]
  clear HC hC
  have hn0 : ¬ (n : Int) < 0 := by omega
  by_cases h : (n : Int) < C.size
  · rw [Nat.min_eq_left (by omega)]
    go_enter Tryd.func48, Tryd.ntmps48
    go_wp2_with fail
    refine (HQ.out w (Below.refl _ _)).mono ?_
    rintro e w1 ⟨rfl, b1⟩
    go_wp2_with fail
    go_returns
    exact ⟨rfl, b1⟩
  · rw [Nat.min_eq_right (by omega)]
    go_enter Tryd.func48, Tryd.ntmps48
    go_wp2_with fail
    refine (HQ.out w (Below.refl _ _)).mono ?_
    rintro e w1 ⟨rfl, b1⟩
    go_wp2_with fail
    refine (HQ.out w1 b1).mono ?_
    rintro e w2 ⟨rfl, b2⟩
    go_wp2_with fail
    go_returns
    exact ⟨rfl, b1.trans (b2.mono b1.size)⟩

theorem cursor_left (bb lb : Nat) (s : ByteArray) (k n : Nat) (w : World) (h : Buf w bb lb s k) (hs : Small s) (hk : k ≤ s.size) (hn : n ≤ 2000) :
    Calls Tryd.prog 32 #[.pointer (some ⟨bb, 0, none⟩), .int .i64 (n : Nat)] w fun e w' => e = .returned (.tuple #[]) ∧ Buf w' bb lb s (k - min n (colOf s k)) ∧ Own bb lb w w' := by
  have H := Go.Lib.hid h
  have hszs := hs.2
  go_enter Tryd.func32, Tryd.ntmps32
  clear h
  go_wp2_with fail
  refine (buf_document bb lb s k w H.out).mono ?_
  rintro e w1 ⟨d, rfl, hd, hB, b1⟩
  have HD := Go.Lib.hid hd
  have HB := Go.Lib.hid hB
  clear hd hB
  go_wp2_with fail
  refine (left_pos d s k n w1 HD.out hs hk hn).mono ?_
  have hc := colOf_le s k
  obtain ⟨C, hC⟩ : ∃ C, C = min n (colOf s k) := ⟨_, rfl⟩
  have HC : Hid (C = min n (colOf s k)) := hC
  have hCk : C ≤ k := by rw [hC]; omega
  rw [← hC]
  clear hC hc
  rintro e w2 ⟨rfl, b2⟩
  have H2 : Hid (Buf w2 bb lb s k) := HB.out.below b2
  obtain ⟨c0, c1, c2, hc3, hc4, t, f, g, lt, sz⟩ := H2.out
  have f2 := f 2
  have hw : IntKind.i64.wrap ((k : Int) + -(C : Int)) = ((k - C : Nat) : Nat) := by rw [IntWalk.i64_in _ (by omega)]; omega
  have hsz1 := HB.out.sz
  have hlt1 := HB.out.lt
  clear hc3 hc4 f
  go_wp2_with fail
  go_returns
  refine ⟨rfl, ?_, (b1.after b2).setB _ _⟩
  rw [← HC.out]
  exact H2.out.cursor (k - C)

theorem cursor_right (bb lb : Nat) (s : ByteArray) (k n : Nat) (w : World) (h : Buf w bb lb s k) (hs : Small s) (hk : k ≤ s.size) :
    Calls Tryd.prog 33 #[.pointer (some ⟨bb, 0, none⟩), .int .i64 (n : Nat)] w fun e w' => e = .returned (.tuple #[]) ∧ Buf w' bb lb s (k + min n (lineA (s.extract k s.size)).size) ∧ Own bb lb w w' := by
  have H := Go.Lib.hid h
  have hszs := hs.2
  go_enter Tryd.func33, Tryd.ntmps33
  clear h
  go_wp2_with fail
  refine (buf_document bb lb s k w H.out).mono ?_
  rintro e w1 ⟨d, rfl, hd, hB, b1⟩
  have HD := Go.Lib.hid hd
  have HB := Go.Lib.hid hB
  clear hd hB
  go_wp2_with fail
  refine (right_pos d s k n w1 HD.out hs hk).mono ?_
  have hc := lineA_le (s.extract k s.size)
  have hxs := size_sub s k s.size (by omega)
  obtain ⟨C, hC⟩ : ∃ C, C = min n (lineA (s.extract k s.size)).size := ⟨_, rfl⟩
  have HC : Hid (C = min n (lineA (s.extract k s.size)).size) := hC
  have hCk : C ≤ s.size := by rw [hC]; omega
  rw [← hC]
  clear hC hc hxs
  rintro e w2 ⟨rfl, b2⟩
  have H2 : Hid (Buf w2 bb lb s k) := HB.out.below b2
  obtain ⟨c0, c1, c2, hc3, hc4, t, f, g, lt, sz⟩ := H2.out
  have f2 := f 2
  have hw : IntKind.i64.wrap ((k : Int) + (C : Int)) = ((k + C : Nat) : Nat) := by rw [IntWalk.i64_in _ (by omega)]; omega
  have hsz1 := HB.out.sz
  have hlt1 := HB.out.lt
  clear hc3 hc4 f
  go_wp2_with fail
  go_returns
  refine ⟨rfl, ?_, (b1.after b2).setB _ _⟩
  rw [← HC.out]
  have := H2.out.cursor (k + C)
  rwa [Int.natCast_add] at this
end Go.Proofs.YtedjjimabchffaaDoor
