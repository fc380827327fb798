/- laws.FnTakenLeft. -/
import Derived.Test.YtoimdbmjpkmkfaaDoorRbShort
import Derived.Test.YtoimdbmjpkmkfaaDoorRbDelWordB
import Derived.Test.YtoimdbmjpkmkfaaDoorRbKillFront
import Derived.Test.YtoimdbmjpkmkfaaDoorEdSteps
import Derived.Test.YtoimdbmjpkmkfaaDoorRbAfter
import Derived.Test.YtoimdbmjpkmkfaaDoorRbGuards
namespace Go.Proofs.YtoimdbmjpkmkfaaDoor
open Go.RowKit
set_option linter.unusedVariables false
set_option linter.unusedSimpArgs false

theorem keyw_cutword (l : List Int) (k : Nat) (kept : List Int) (hk : k ≤ l.length) (hl : l.length ≤ 100000) (h0 : k < l.length) (s : ByteArray) (n : Int) (f b : Bool) : KeyOk ⟨13, s, n, f, b⟩ l k kept (-1) (l.take k ++ l.drop (cutTo l k)) k ((l.take (cutTo l k)).drop k) := fun rb w h => by
  have H : Hid (RB (w.alloc (.cells #[.int .i64 13, .string s, .int .i64 n, .bool f, .bool b] 30)) rb l k kept) := h.below ((Below.refl _ _).alloc (Nat.le_refl _) _)
  have HC := Go.Lib.hid fun (W : World) (h : RB W rb l k kept) => delword_any rb l k kept W h h0 hl
  clear h
  generalize (l.take k ++ l.drop (cutTo l k)) = q1 at HC ⊢
  generalize ((l.take (cutTo l k)).drop k) = q3 at HC ⊢
  have HW : Hid (∀ W, RB W rb l k kept → Calls Tryd.prog 46 #[.pointer (some ⟨rb, 0, none⟩), .int .i64 13] W fun e w' => e = .returned (.tuple #[.int .i64 (-1), .bool true]) ∧ RB w' rb q1 k q3 ∧ Own rb W w') := fun W h => by
    have H := Go.Lib.hid h
    clear h
    go_enter Tryd.func46, Tryd.ntmps46
    go_wp2_with fail
    refine (HC.out _ H.out).mono ?_
    rintro e w1 ⟨rfl, h1, o1⟩
    have H1 := Go.Lib.hid h1
    clear h1
    go_wp2_with fail
    go_returns
    exact ⟨rfl, H1.out, o1⟩
  unfold Ky.val
  go_enter Tryd.func23, Tryd.ntmps23
  go_wp2_with fail
  refine (HW.out _ H.out).mono ?_
  rintro e w1 ⟨rfl, h1, o1⟩
  have H1 := Go.Lib.hid h1
  clear h1
  go_wp2_with fail
  go_returns
  exact ⟨rfl, H1.out, ((Own.refl _ _).alloc _).trans o1⟩

theorem keyw_backword (l : List Int) (k : Nat) (kept : List Int) (hk : k ≤ l.length) (hl : l.length ≤ 100000) (i : Nat) (hi : befW l k = (i : Nat)) (s : ByteArray) (n : Int) (f b : Bool) : KeyOk ⟨14, s, n, f, b⟩ l k kept (-1) (l.take i ++ l.drop k) i ((l.take k).drop i) := fun rb w h => by
  have H : Hid (RB (w.alloc (.cells #[.int .i64 14, .string s, .int .i64 n, .bool f, .bool b] 30)) rb l k kept) := h.below ((Below.refl _ _).alloc (Nat.le_refl _) _)
  have HC := Go.Lib.hid fun (W : World) (h : RB W rb l k kept) => backword_any rb l k kept W h hk hl i hi
  clear h
  generalize (l.take i ++ l.drop k) = q1 at HC ⊢
  generalize ((l.take k).drop i) = q3 at HC ⊢
  have HW : Hid (∀ W, RB W rb l k kept → Calls Tryd.prog 46 #[.pointer (some ⟨rb, 0, none⟩), .int .i64 14] W fun e w' => e = .returned (.tuple #[.int .i64 (-1), .bool true]) ∧ RB w' rb q1 i q3 ∧ Own rb W w') := fun W h => by
    have H := Go.Lib.hid h
    clear h
    go_enter Tryd.func46, Tryd.ntmps46
    go_wp2_with fail
    refine (HC.out _ H.out).mono ?_
    rintro e w1 ⟨rfl, h1, o1⟩
    have H1 := Go.Lib.hid h1
    clear h1
    go_wp2_with fail
    go_returns
    exact ⟨rfl, H1.out, o1⟩
  unfold Ky.val
  go_enter Tryd.func23, Tryd.ntmps23
  go_wp2_with fail
  refine (HW.out _ H.out).mono ?_
  rintro e w1 ⟨rfl, h1, o1⟩
  have H1 := Go.Lib.hid h1
  clear h1
  go_wp2_with fail
  go_returns
  exact ⟨rfl, H1.out, ((Own.refl _ _).alloc _).trans o1⟩

theorem keyw_killfront (l : List Int) (k : Nat) (kept : List Int) (hk : k ≤ l.length) (hl : l.length ≤ 100000) (h0 : 0 < k) (s : ByteArray) (n : Int) (f b : Bool) : KeyOk ⟨16, s, n, f, b⟩ l k kept (-1) (l.drop k) 0 ((l.take k).drop 0) := fun rb w h => by
  have H : Hid (RB (w.alloc (.cells #[.int .i64 16, .string s, .int .i64 n, .bool f, .bool b] 30)) rb l k kept) := h.below ((Below.refl _ _).alloc (Nat.le_refl _) _)
  have HC := Go.Lib.hid fun (W : World) (h : RB W rb l k kept) => killfront_any rb l k kept W h hk h0 hl
  clear h
  generalize (l.drop k) = q1 at HC ⊢
  generalize ((l.take k).drop 0) = q3 at HC ⊢
  have HW : Hid (∀ W, RB W rb l k kept → Calls Tryd.prog 46 #[.pointer (some ⟨rb, 0, none⟩), .int .i64 16] W fun e w' => e = .returned (.tuple #[.int .i64 (-1), .bool true]) ∧ RB w' rb q1 0 q3 ∧ Own rb W w') := fun W h => by
    have H := Go.Lib.hid h
    clear h
    go_enter Tryd.func46, Tryd.ntmps46
    go_wp2_with fail
    refine (HC.out _ H.out).mono ?_
    rintro e w1 ⟨rfl, h1, o1⟩
    have H1 := Go.Lib.hid h1
    clear h1
    go_wp2_with fail
    go_returns
    exact ⟨rfl, H1.out, o1⟩
  unfold Ky.val
  go_enter Tryd.func23, Tryd.ntmps23
  go_wp2_with fail
  refine (HW.out _ H.out).mono ?_
  rintro e w1 ⟨rfl, h1, o1⟩
  have H1 := Go.Lib.hid h1
  clear h1
  go_wp2_with fail
  go_returns
  exact ⟨rfl, H1.out, ((Own.refl _ _).alloc _).trans o1⟩

/-- A step that takes something out: what stands between two places; the cursor goes to the first one. -/
def Takes (e : Ky) (l : List Int) (k : Nat) : Prop :=
  (∃ m l' k' kept' bad', DoOk e l k [] m l' k' kept' bad' true) ∨
  (∃ m kept', DoOk e l k [] m l k kept' false false) ∨
  ∃ m i j, i < j ∧ i ≤ k ∧ k ≤ j ∧ j ≤ l.length ∧ DoOk e l k [] m (l.take i ++ l.drop j) i ((l.take j).drop i) false false ∧ KeyOk e l k [] m (l.take i ++ l.drop j) i ((l.take j).drop i)

theorem takes_any (op : Int) (l : List Int) (k : Nat) (hk : k ≤ l.length) (hl : l.length ≤ 100) (hop : op = 13 ∨ op = 14 ∨ op = 6 ∨ op = 15 ∨ op = 16) : Takes ⟨op, ⟨#[]⟩, 0, false, false⟩ l k := by
  have hl2 : l.length ≤ 100000 := by omega
  rcases hop with rfl | rfl | rfl | rfl | rfl
  · -- up to the next word
    by_cases h : k < l.length
    · have hb := cutTo_bd l k hk
      by_cases he : cutTo l k = k
      · have := do_cutword l k [] ⟨#[]⟩ 0 false false hk hl2 h
        rw [he, show without l k k = l from List.take_append_drop k l] at this
        exact .inr (.inl ⟨_, _, this⟩)
      · exact .inr (.inr ⟨_, k, cutTo l k, by omega, by omega, hb.1, hb.2, do_cutword l k [] ⟨#[]⟩ 0 false false hk hl2 h, keyw_cutword l k [] hk hl2 h ⟨#[]⟩ 0 false false⟩)
    · exact .inr (.inl ⟨_, _, do_cutword_none l k [] ⟨#[]⟩ 0 false false hk hl2 (by omega)⟩)
  · by_cases h : befW l k = -1
    · exact .inl ⟨_, _, _, _, _, do_backword_open l k [] ⟨#[]⟩ 0 false false hk hl2 h⟩
    · have hge := befW_ge l k
      have hlt := befW_lt l k
      obtain ⟨i, hi⟩ : ∃ i : Nat, befW l k = i := Int.eq_ofNat_of_zero_le (by omega)
      have hd := do_backword l k [] ⟨#[]⟩ 0 false false hk hl2 h
      rw [hi, Int.toNat_natCast] at hd
      exact .inr (.inr ⟨_, i, k, by omega, by omega, by omega, hk, hd, keyw_backword l k [] hk hl2 i hi ⟨#[]⟩ 0 false false⟩)
  · by_cases h : k < l.length
    · exact .inr (.inr ⟨_, k, k + 1, by omega, by omega, by omega, by omega, do_delete l k [] ⟨#[]⟩ 0 false false hk hl2 h, key_delete l k [] hk hl2 h ⟨#[]⟩ 0 false false⟩)
    · exact .inr (.inl ⟨_, _, do_delete_none l k [] ⟨#[]⟩ 0 false false hk hl2 (by omega)⟩)
  · by_cases h : k < l.length
    · refine .inr (.inr ⟨_, k, l.length, h, by omega, hk, Nat.le_refl _, do_kill l k [] ⟨#[]⟩ 0 false false hk hl2, ?_⟩)
      have := key_kill l k [] hk hl2 ⟨#[]⟩ 0 false false
      rw [List.drop_length, List.append_nil, List.take_length]
      exact this
    · obtain rfl : k = l.length := by omega
      have := do_kill l l.length [] ⟨#[]⟩ 0 false false hk hl2
      rw [show without l l.length l.length = l from List.take_append_drop l.length l] at this
      exact .inr (.inl ⟨_, _, this⟩)
  · by_cases h : 0 < k
    · refine .inr (.inr ⟨_, 0, k, h, by omega, Nat.le_refl _, hk, do_killfront l k [] ⟨#[]⟩ 0 false false hk hl2 h, ?_⟩)
      have := keyw_killfront l k [] hk hl2 h ⟨#[]⟩ 0 false false
      rw [List.take_zero, List.nil_append]
      exact this
    · exact .inr (.inl ⟨_, _, do_killfront_none l k [] ⟨#[]⟩ 0 false false hk hl2 (by omega)⟩)

theorem put_back (l : List Int) (i j : Nat) (hij : i ≤ j) (hj : j ≤ l.length) : (l.take i ++ l.drop j).take i ++ (l.take j).drop i ++ (l.take i ++ l.drop j).drop i = l := by
  have hlen : (l.take i).length = i := by simp; omega
  have e1 : (l.take i ++ l.drop j).take i = l.take i := by
    rw [List.take_append_of_le_length (by omega), List.take_of_length_le (by omega)]
  have e2 : (l.take i ++ l.drop j).drop i = l.drop j := by
    rw [List.drop_append_of_le_length (by omega), List.drop_eq_nil_of_le (by omega), List.nil_append]
  rw [e1, e2]
  have e : l.take i ++ (l.take j).drop i = l.take j := by
    have := List.take_append_drop i (l.take j)
    rwa [List.take_take, Nat.min_eq_left hij] at this
  rw [e, List.take_append_drop]

theorem open_same {eb : Nat} {l : List Int} {k : Nat} {kept : List Int} {bad op : Bool} {w : World} (h : Ed w eb l k kept bad op) : Calls Tryd.prog 8 #[.pointer (some ⟨eb, 0, none⟩)] w fun e w' => e = .returned (.bool op) ∧ w' = w := (open_any eb l k kept bad op w h).mono fun _ _ ⟨h1, h2⟩ => ⟨h1, h2.symm⟩

namespace fnTakenLeft
def Post (w : World) (e : Ending) (w' : World) : Prop := e = .returned (.bool true) ∧ Below w.heap.size w w'

end fnTakenLeft
end Go.Proofs.YtoimdbmjpkmkfaaDoor
