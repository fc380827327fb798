/- laws.FnTakenLeft. -/
import Derived.Test.YtdneljnldmhfoaaDoorRbDelWordB
import Derived.Test.YtdneljnldmhfoaaDoorRbKillFront
import Derived.Test.YtdneljnldmhfoaaDoorEdSteps
import Derived.Test.YtdneljnldmhfoaaDoorRbAfter
import Derived.Test.YtdneljnldmhfoaaDoorRbGuards
namespace Go.Proofs.YtdneljnldmhfoaaDoor
open Go.RowKit
set_option linter.unusedVariables false
set_option linter.unusedSimpArgs false

theorem keyw_cutword (l : List Int) (k : Nat) (kept : List Int) (hk : k ≤ l.length) (hl : l.length ≤ 100000) (h0 : k < l.length) (s : ByteArray) (n : Int) (f b : Bool) : KeyOk ⟨13, s, n, f, b⟩ l k kept (-1) (l.take k ++ l.drop (cutTo l k)) k ((l.take (cutTo l k)).drop k) := fun rb w h => by
  have H : Hid (RB (w.alloc (.cells #[.int .i64 13, .string s, .int .i64 n, .bool f, .bool b] 30)) rb l k kept) := h.below ((Below.refl _ _).alloc (Nat.le_refl _) _)
  have HC := Go.Lib.hid fun (W : World) (h : RB W rb l k kept) => delword_any rb l k kept W h h0 hl
  clear h
  generalize (l.take k ++ l.drop (cutTo l k)) = q1 at HC ⊢
  generalize ((l.take (cutTo l k)).drop k) = q3 at HC ⊢
  have HW : Hid (∀ W, RB W rb l k kept → Calls Tryd.prog 55 #[.pointer (some ⟨rb, 0, none⟩), .int .i64 13] W fun e w' => e = .returned (.tuple #[.int .i64 (-1), .bool true]) ∧ RB w' rb q1 k q3 ∧ Own rb W w') := fun W h => by
    have H := Go.Lib.hid h
    clear h
    go_enter Tryd.func55, Tryd.ntmps55
    go_wp2_with fail
    refine (HC.out _ H.out).mono ?_
    rintro e w1 ⟨rfl, h1, o1⟩
    have H1 := Go.Lib.hid h1
    clear h1
    go_wp2_with fail
    go_returns
    exact ⟨rfl, H1.out, o1⟩
  unfold Ky.val
  go_enter Tryd.func30, Tryd.ntmps30
  go_wp2_with fail
  refine (HW.out _ H.out).mono ?_
  rintro e w1 ⟨rfl, h1, o1⟩
  have H1 := Go.Lib.hid h1
  clear h1
  go_wp2_with fail
  go_returns
  exact ⟨rfl, H1.out, ((Own.refl _ _).alloc _).trans o1⟩

theorem keyw_backword (l : List Int) (k : Nat) (kept : List Int) (hk : k ≤ l.length) (hl : l.length ≤ 100000) (i : Nat) (hi : befW l k = (i : Nat)) (s : ByteArray) (n : Int) (f b : Bool) : KeyOk ⟨14, s, n, f, b⟩ l k kept (-1) (l.take i ++ l.drop k) i ((l.take k).drop i) := fun rb w h => by
  have H : Hid (RB (w.alloc (.cells #[.int .i64 14, .string s, .int .i64 n, .bool f, .bool b] 30)) rb l k kept) := h.below ((Below.refl _ _).alloc (Nat.le_refl _) _)
  have HC := Go.Lib.hid fun (W : World) (h : RB W rb l k kept) => backword_any rb l k kept W h hk hl i hi
  clear h
  generalize (l.take i ++ l.drop k) = q1 at HC ⊢
  generalize ((l.take k).drop i) = q3 at HC ⊢
  have HW : Hid (∀ W, RB W rb l k kept → Calls Tryd.prog 55 #[.pointer (some ⟨rb, 0, none⟩), .int .i64 14] W fun e w' => e = .returned (.tuple #[.int .i64 (-1), .bool true]) ∧ RB w' rb q1 i q3 ∧ Own rb W w') := fun W h => by
    have H := Go.Lib.hid h
    clear h
    go_enter Tryd.func55, Tryd.ntmps55
    go_wp2_with fail
    refine (HC.out _ H.out).mono ?_
    rintro e w1 ⟨rfl, h1, o1⟩
    have H1 := Go.Lib.hid h1
    clear h1
    go_wp2_with fail
    go_returns
    exact ⟨rfl, H1.out, o1⟩
  unfold Ky.val
  go_enter Tryd.func30, Tryd.ntmps30
  go_wp2_with fail
  refine (HW.out _ H.out).mono ?_
  rintro e w1 ⟨rfl, h1, o1⟩
  have H1 := Go.Lib.hid h1
  clear h1
  go_wp2_with fail
  go_returns
  exact ⟨rfl, H1.out, ((Own.refl _ _).alloc _).trans o1⟩

theorem keyw_killfront (l : List Int) (k : Nat) (kept : List Int) (hk : k ≤ l.length) (hl : l.length ≤ 100000) (h0 : 0 < k) (s : ByteArray) (n : Int) (f b : Bool) : KeyOk ⟨16, s, n, f, b⟩ l k kept (-1) (l.drop k) 0 ((l.take k).drop 0) := fun rb w h => by
  have H : Hid (RB (w.alloc (.cells #[.int .i64 16, .string s, .int .i64 n, .bool f, .bool b] 30)) rb l k kept) := h.below ((Below.refl _ _).alloc (Nat.le_refl _) _)
  have HC := Go.Lib.hid fun (W : World) (h : RB W rb l k kept) => killfront_any rb l k kept W h hk h0 hl
  clear h
  generalize (l.drop k) = q1 at HC ⊢
  generalize ((l.take k).drop 0) = q3 at HC ⊢
  have HW : Hid (∀ W, RB W rb l k kept → Calls Tryd.prog 55 #[.pointer (some ⟨rb, 0, none⟩), .int .i64 16] W fun e w' => e = .returned (.tuple #[.int .i64 (-1), .bool true]) ∧ RB w' rb q1 0 q3 ∧ Own rb W w') := fun W h => by
    have H := Go.Lib.hid h
    clear h
    go_enter Tryd.func55, Tryd.ntmps55
    go_wp2_with fail
    refine (HC.out _ H.out).mono ?_
    rintro e w1 ⟨rfl, h1, o1⟩
    have H1 := Go.Lib.hid h1
    clear h1
    go_wp2_with fail
    go_returns
    exact ⟨rfl, H1.out, o1⟩
  unfold Ky.val
  go_enter Tryd.func30, Tryd.ntmps30
  go_wp2_with fail
  refine (HW.out _ H.out).mono ?_
  rintro e w1 ⟨rfl, h1, o1⟩
  have H1 := Go.Lib.hid h1
  clear h1
  go_wp2_with fail
  go_returns
  exact ⟨rfl, H1.out, ((Own.refl _ _).alloc _).trans o1⟩

/-- A step that takes something out: what stands between two places; the cursor goes to the first one. -/
def Takes (e : Ky) (l : List Int) (k : Nat) : Prop :=
  (∃ m l' k' kept' bad', DoOk e l k [] m l' k' kept' bad' true) ∨
  (∃ m kept', DoOk e l k [] m l k kept' false false) ∨
  ∃ m i j, i < j ∧ i ≤ k ∧ k ≤ j ∧ j ≤ l.length ∧ DoOk e l k [] m (l.take i ++ l.drop j) i ((l.take j).drop i) false false ∧ KeyOk e l k [] m (l.take i ++ l.drop j) i ((l.take j).drop i)

theorem takes_any (op : Int) (l : List Int) (k : Nat) (hk : k ≤ l.length) (hl : l.length ≤ 100) (hop : op = 13 ∨ op = 14 ∨ op = 6 ∨ op = 15 ∨ op = 16) : Takes ⟨op, ⟨#[]⟩, 0, false, false⟩ l k := by
  have hl2 : l.length ≤ 100000 := by omega
  rcases hop with rfl | rfl | rfl | rfl | rfl
  · -- up to the next word
    by_cases h : k < l.length
    · have hb := cutTo_bd l k hk
      by_cases he : cutTo l k = k
      · have := do_cutword l k [] ⟨#[]⟩ 0 false false hk hl2 h
        rw [he, show without l k k = l from List.take_append_drop k l] at this
        exact .inr (.inl ⟨_, _, this⟩)
      · exact .inr (.inr ⟨_, k, cutTo l k, by omega, by omega, hb.1, hb.2, do_cutword l k [] ⟨#[]⟩ 0 false false hk hl2 h, keyw_cutword l k [] hk hl2 h ⟨#[]⟩ 0 false false⟩)
    · exact .inr (.inl ⟨_, _, do_cutword_none l k [] ⟨#[]⟩ 0 false false hk hl2 (by omega)⟩)
  · by_cases h : befW l k = -1
    · exact .inl ⟨_, _, _, _, _, do_backword_open l k [] ⟨#[]⟩ 0 false false hk hl2 h⟩
    · have hge := befW_ge l k
      have hlt := befW_lt l k
      obtain ⟨i, hi⟩ : ∃ i : Nat, befW l k = i := Int.eq_ofNat_of_zero_le (by omega)
      have hd := do_backword l k [] ⟨#[]⟩ 0 false false hk hl2 h
      rw [hi, Int.toNat_natCast] at hd
      exact .inr (.inr ⟨_, i, k, by omega, by omega, by omega, hk, hd, keyw_backword l k [] hk hl2 i hi ⟨#[]⟩ 0 false false⟩)
  · by_cases h : k < l.length
    · exact .inr (.inr ⟨_, k, k + 1, by omega, by omega, by omega, by omega, do_delete l k [] ⟨#[]⟩ 0 false false hk hl2 h, key_delete l k [] hk hl2 h ⟨#[]⟩ 0 false false⟩)
    · exact .inr (.inl ⟨_, _, do_delete_none l k [] ⟨#[]⟩ 0 false false hk hl2 (by omega)⟩)
  · by_cases h : k < l.length
    · refine .inr (.inr ⟨_, k, l.length, h, by omega, hk, Nat.le_refl _, do_kill l k [] ⟨#[]⟩ 0 false false hk hl2, ?_⟩)
      have := key_kill l k [] hk hl2 ⟨#[]⟩ 0 false false
      rw [List.drop_length, List.append_nil, List.take_length]
      exact this
    · obtain rfl : k = l.length := by omega
      have := do_kill l l.length [] ⟨#[]⟩ 0 false false hk hl2
      rw [show without l l.length l.length = l from List.take_append_drop l.length l] at this
      exact .inr (.inl ⟨_, _, this⟩)
  · by_cases h : 0 < k
    · refine .inr (.inr ⟨_, 0, k, h, by omega, Nat.le_refl _, hk, do_killfront l k [] ⟨#[]⟩ 0 false false hk hl2 h, ?_⟩)
      have := keyw_killfront l k [] hk hl2 h ⟨#[]⟩ 0 false false
      rw [List.take_zero, List.nil_append]
      exact this
    · exact .inr (.inl ⟨_, _, do_killfront_none l k [] ⟨#[]⟩ 0 false false hk hl2 (by omega)⟩)

theorem put_back (l : List Int) (i j : Nat) (hij : i ≤ j) (hj : j ≤ l.length) : (l.take i ++ l.drop j).take i ++ (l.take j).drop i ++ (l.take i ++ l.drop j).drop i = l := by
  have hlen : (l.take i).length = i := by simp; omega
  have e1 : (l.take i ++ l.drop j).take i = l.take i := by
    rw [List.take_append_of_le_length (by omega), List.take_of_length_le (by omega)]
  have e2 : (l.take i ++ l.drop j).drop i = l.drop j := by
    rw [List.drop_append_of_le_length (by omega), List.drop_eq_nil_of_le (by omega), List.nil_append]
  rw [e1, e2]
  have e : l.take i ++ (l.take j).drop i = l.take j := by
    have := List.take_append_drop i (l.take j)
    rwa [List.take_take, Nat.min_eq_left hij] at this
  rw [e, List.take_append_drop]

theorem open_same {eb : Nat} {l : List Int} {k : Nat} {kept : List Int} {bad op : Bool} {w : World} (h : Ed w eb l k kept bad op) : Calls Tryd.prog 11 #[.pointer (some ⟨eb, 0, none⟩)] w fun e w' => e = .returned (.bool op) ∧ w' = w := (open_any eb l k kept bad op w h).mono fun _ _ ⟨h1, h2⟩ => ⟨h1, h2.symm⟩

namespace fnTakenLeft
def Post (w : World) (e : Ending) (w' : World) : Prop := e = .returned (.bool true) ∧ Below w.heap.size w w'

attribute [local go_sem] undef Instr.field asAgg in
set_option maxRecDepth 100000 in
set_option maxHeartbeats 8000000 in
theorem walk (s : ByteArray) (a which : Int) (w : World) (_hs : s.size ≤ maxLen) (_hat : (Lit.int .i64 a).wf = true) (hwh : (Lit.int .u8 which).wf = true) {X : Prop} (_hL : X) :
    Calls Tryd.prog 4 #[.agg #[.string s, .int .i64 a], .int .u8 which] w fun e w' => e = .returned (.bool true) ∧ Below w.heap.size w w' := by
  show Calls _ _ _ _ (Post w)
  obtain ⟨hw0, hw1⟩ := Go.bounds_u8 hwh
  clear _hs _hat _hL hwh
  go_enter Tryd.func4, Tryd.ntmps4
  go_wp2_with fail
  refine (fits11_any s a _).mono ?_
  rintro e w1 ⟨b, rfl, hb, b1⟩
  have B1 : Hid (Below w.heap.size w w1) := ((Below.refl w.heap.size w).alloc (Nat.le_refl _) _).trans (b1.mono (by simp))
  have c0 : w1.cell? ⟨w.heap.size, 0, none⟩ = some (.string s) := (b1.cell (p := ⟨w.heap.size, 0, none⟩) (by simp)).trans (by simp [go_sem])
  have c1 : w1.cell? ⟨w.heap.size, 1, none⟩ = some (.int .i64 a) := (b1.cell (p := ⟨w.heap.size, 1, none⟩) (by simp)).trans (by simp [go_sem])
  have z1 : w.heap.size < w1.heap.size := by have := b1.size; simp at this; omega
  have HF := Go.Lib.hid hb
  clear hb b1
  cases b
  · go_wp2_with fail
    go_returns
    exact ⟨rfl, B1.out⟩
  have hs : s.size ≤ 2147483647 := HF.out (by trivial)
  go_wp2_with fail
  refine (short9_any s a _ hs).mono ?_
  rintro e w2 ⟨b, rfl, hb, b2⟩
  have B2 : Hid (Below w.heap.size w w2) := B1.out.trans (b2.mono B1.out.size)
  have d0 := (b2.cell (p := ⟨w.heap.size, 0, none⟩) z1).trans c0
  have d1 := (b2.cell (p := ⟨w.heap.size, 1, none⟩) z1).trans c1
  have z2 : w.heap.size < w2.heap.size := Nat.lt_of_lt_of_le z1 b2.size
  have HL := Go.Lib.hid hb
  clear hb b2 c0 c1 B1 HF
  cases b
  · go_wp2_with fail
    go_returns
    exact ⟨rfl, B2.out⟩
  obtain ⟨⟨hA, -, h0, h1⟩, h100⟩ := HL.out (by trivial)
  have HA := Go.Lib.hid hA
  obtain ⟨k, rfl⟩ : ∃ k : Nat, a = k := ⟨a.toNat, by omega⟩
  have hks : k ≤ s.size := by omega
  have hrl : (runes s).length = s.size := runes_ascii_length s HA.out
  clear hA HL h1 h0
  -- the kind of step
  obtain ⟨q, op, hq, hq5, hop, hcell⟩ : ∃ (q : Nat) (op : Int), which % 5 = (q : Nat) ∧ q < 5 ∧ (op = 13 ∨ op = 14 ∨ op = 6 ∨ op = 15 ∨ op = 16) ∧ ∀ h, ([.int .i64 13, .int .i64 14, .int .i64 6, .int .i64 15, .int .i64 16] : List Value)[q]'h = .int .i64 op := by
    have : which % 5 = 0 ∨ which % 5 = 1 ∨ which % 5 = 2 ∨ which % 5 = 3 ∨ which % 5 = 4 := by omega
    rcases this with h | h | h | h | h
    · exact ⟨0, 13, h, by omega, by simp, fun _ => rfl⟩
    · exact ⟨1, 14, h, by omega, by simp, fun _ => rfl⟩
    · exact ⟨2, 6, h, by omega, by simp, fun _ => rfl⟩
    · exact ⟨3, 15, h, by omega, by simp, fun _ => rfl⟩
    · exact ⟨4, 16, h, by omega, by simp, fun _ => rfl⟩
  have HT := Go.Lib.hid (takes_any op (runes s) k (by omega) (by omega) hop)
  have hq0 : (0 : Int) ≤ q := by omega
  have hq1 : (q : Int) < 5 := by omega
  clear hop
  obtain ⟨W, hW⟩ : ∃ W, W = w2.alloc (.cells #[.int .i64 13, .int .i64 14, .int .i64 6, .int .i64 15, .int .i64 16] 3) := ⟨_, rfl⟩
  have bW : Below w2.heap.size w2 W := by rw [hW]; exact (Below.refl _ _).alloc (Nat.le_refl _) _
  have zW : W.heap.size = w2.heap.size + 1 := by rw [hW]; simp
  have e0 := (bW.cell (p := ⟨w.heap.size, 0, none⟩) z2).trans d0
  have e1 := (bW.cell (p := ⟨w.heap.size, 1, none⟩) z2).trans d1
  have BW : Hid (Below w.heap.size w W) := B2.out.trans (bW.mono B2.out.size)
  have zz : w.heap.size < W.heap.size := by omega
  clear d0 d1 bW B2
  have hKC : ∀ w', Below (W.alloc (.cells #[.int .i64 op, .string ⟨#[]⟩, .int .i64 0, .bool false, .bool false] 30)).heap.size (W.alloc (.cells #[.int .i64 op, .string ⟨#[]⟩, .int .i64 0, .bool false, .bool false] 30)) w' →
      w'.cell? ⟨W.heap.size, 0, none⟩ = some (.int .i64 op) ∧ w'.cell? ⟨W.heap.size, 1, none⟩ = some (.string ⟨#[]⟩) ∧ w'.cell? ⟨W.heap.size, 2, none⟩ = some (.int .i64 0) ∧ w'.cell? ⟨W.heap.size, 3, none⟩ = some (.bool false) ∧ w'.cell? ⟨W.heap.size, 4, none⟩ = some (.bool false) := fun w' hb =>
    ⟨(hb.cell (p := ⟨W.heap.size, 0, none⟩) (by simp)).trans (by simp [go_sem]), (hb.cell (p := ⟨W.heap.size, 1, none⟩) (by simp)).trans (by simp [go_sem]), (hb.cell (p := ⟨W.heap.size, 2, none⟩) (by simp)).trans (by simp [go_sem]), (hb.cell (p := ⟨W.heap.size, 3, none⟩) (by simp)).trans (by simp [go_sem]), (hb.cell (p := ⟨W.heap.size, 4, none⟩) (by simp)).trans (by simp [go_sem])⟩
  have HKC := Go.Lib.hid hKC
  clear hKC
  have x0 : ((w2.alloc (.cells #[.int .i64 13, .int .i64 14, .int .i64 6, .int .i64 15, .int .i64 16] 3)).alloc (.cells #[.int .i64 op, .string ⟨#[]⟩, .int .i64 0, .bool false, .bool false] 30)).cell? ⟨w.heap.size, 0, none⟩ = some (.string s) := by
    rw [← hW]; exact (((Below.refl W.heap.size W).alloc (Nat.le_refl _) _).cell (p := ⟨w.heap.size, 0, none⟩) zz).trans e0
  have x1 : ((w2.alloc (.cells #[.int .i64 13, .int .i64 14, .int .i64 6, .int .i64 15, .int .i64 16] 3)).alloc (.cells #[.int .i64 op, .string ⟨#[]⟩, .int .i64 0, .bool false, .bool false] 30)).cell? ⟨w.heap.size, 1, none⟩ = some (.int .i64 (k : Nat)) := by
    rw [← hW]; exact (((Below.refl W.heap.size W).alloc (Nat.le_refl _) _).cell (p := ⟨w.heap.size, 1, none⟩) zz).trans e1
  go_wp2_with fail
  rw [← hW]
  clear x0 x1
  obtain ⟨W1, hW1⟩ : ∃ W1, W1 = W.alloc (.cells #[.int .i64 op, .string ⟨#[]⟩, .int .i64 0, .bool false, .bool false] 30) := ⟨_, rfl⟩
  have bW1 : Below W.heap.size W W1 := by rw [hW1]; exact (Below.refl _ _).alloc (Nat.le_refl _) _
  have zW1 : W1.heap.size = W.heap.size + 1 := by rw [hW1]; simp
  rw [← hW1] at HKC ⊢
  have BW1 : Hid (Below w.heap.size w W1) := BW.out.trans (bW1.mono BW.out.size)
  have f0 := (bW1.cell (p := ⟨w.heap.size, 0, none⟩) zz).trans e0
  have f1 := (bW1.cell (p := ⟨w.heap.size, 1, none⟩) zz).trans e1
  clear hW1 bW1 e0 e1 hcell hW
  refine (newEditor_any s k W1 (by omega) (by omega)).mono ?_
  rintro e w3 ⟨eb, rfl, heb, hed, b3⟩
  have HED := Go.Lib.hid hed
  have B3 : Hid (Below w.heap.size w w3) := BW1.out.trans (b3.mono BW1.out.size)
  have B13 := Go.Lib.hid b3
  have g0 := (b3.cell (p := ⟨w.heap.size, 0, none⟩) (by show w.heap.size < _; omega)).trans f0
  have g1 := (b3.cell (p := ⟨w.heap.size, 1, none⟩) (by show w.heap.size < _; omega)).trans f1
  obtain ⟨k0, k1, k2, k3, k4⟩ := HKC.out w3 b3
  rw [zW] at k0 k1 k2 k3 k4
  have z3 := b3.size
  clear b3 hed f0 f1
  go_wp2_with fail
  have hval : (⟨op, ⟨#[]⟩, 0, false, false⟩ : Ky).val = .agg #[.int .i64 op, .string ⟨#[]⟩, .int .i64 0, .bool false, .bool false] := rfl
  rw [← hval]
  clear hval
  have hno : ∀ {P : Prop}, P → P := fun h => h
  clear hno
  rcases HT.out with ⟨m, l', k', kept', bad', hdo⟩ | ⟨m, kept', hdo⟩ | ⟨m, i, j, hij, hik, hkj, hjl, hdo, hkey⟩
  · refine (hdo eb w3 HED.out).mono ?_
    rintro e w4 ⟨rfl, hed, o4⟩
    have HED4 := Go.Lib.hid (hed.same (Below.refl _ _).drew)
    have B4 : Hid (Below w.heap.size w w4) := B3.out.trans (o4.below (by omega) B3.out.size)
    clear hed o4 hdo k0 k1 k2 k3 k4 g0 g1
    go_wp2_with fail
    first | (go_region_with ((go_at_call 11; (with_reducible refine (open_any eb _ _ _ _ _ _ HED4.out).mono ?_); rintro e w7 ⟨rfl, rfl⟩))) | fail
    all_goals (try go_simp)
    all_goals (try go_wp2_with fail)
    all_goals go_returns
    all_goals exact ⟨rfl, B4.out.drew⟩
  · refine (hdo eb w3 HED.out).mono ?_
    rintro e w4 ⟨rfl, hed, o4⟩
    have HED4 := Go.Lib.hid (hed.same (Below.refl _ _).drew)
    have B4 : Hid (Below w.heap.size w w4) := B3.out.trans (o4.below (by omega) B3.out.size)
    have h0 := (World.cell?_of_block (w := w3) (o4.rest w.heap.size (by omega) (by omega))).trans g0
    have zl : w.heap.size < w4.heap.size := by have := o4.size; omega
    have hbs : runesBytes (runes s) = s := bytes_runes s HA.out
    have HLN := Go.Lib.hid (line_any eb _ _ _ _ _ _ HED4.out)
    rw [hbs] at HLN
    clear hed o4 hdo k0 k1 k2 k3 k4 g0 g1 hbs
    go_wp2_with fail
    go_region_with (first | (go_at_call 11; (with_reducible refine (open_any eb _ _ _ _ _ _ HED4.out).mono ?_); rintro e w7 ⟨rfl, rfl⟩) | (go_at_call 12; (with_reducible refine HLN.out.mono ?_); rintro e w7 ⟨rfl, b7⟩; have r0 := (b7.cell (p := ⟨w.heap.size, 0, none⟩) zl).trans h0; have B7 : Hid (Below w.heap.size w w7) := B4.out.drew.trans (b7.mono B4.out.size); clear b7))
    all_goals (try go_simp)
    all_goals (try go_wp2_with fail)
    all_goals go_returns
    all_goals exact ⟨rfl, B7.out⟩
  · refine (hdo eb w3 HED.out).mono ?_
    rintro e w4 ⟨rfl, hed, o4⟩
    obtain ⟨l', hl'⟩ : ∃ l', l' = (runes s).take i ++ (runes s).drop j := ⟨_, rfl⟩
    obtain ⟨kp, hkp⟩ : ∃ kp, kp = ((runes s).take j).drop i := ⟨_, rfl⟩
    have hkpl : kp.length = j - i := by rw [hkp]; simp; omega
    have hll : l'.length = s.size - (j - i) := by rw [hl']; simp; omega
    have hback : l'.take i ++ kp ++ l'.drop i = runes s := by rw [hl', hkp]; exact put_back (runes s) i j (by omega) hjl
    rw [← hl', ← hkp] at hkey hed
    obtain ⟨out, ho⟩ : ∃ o, o = runesBytes l' := ⟨_, rfl⟩
    have hos : out.size = s.size - (j - i) := by
      rw [ho, bytes_size s HA.out l' (fun z hz => by
        rw [hl'] at hz
        rcases List.mem_append.1 hz with h | h
        · exact List.mem_of_mem_take h
        · exact List.mem_of_mem_drop h), hll]
    have HX := Go.Lib.hid (after_new s k [⟨op, ⟨#[]⟩, 0, false, false⟩] [m] l' kp i out (by omega) HA.out hks (.cons hkey (.nil _ _ _)) ho.symm (by omega) (by simp) (by simp))
    have HY := Go.Lib.hid (after_new s k [⟨op, ⟨#[]⟩, 0, false, false⟩, ⟨17, ⟨#[]⟩, 0, false, false⟩] [m, -1] (runes s) kp j s (by omega) HA.out hks (by
      have k2 := key_yank l' i kp (by omega) (by omega) (by omega) (by omega) ⟨#[]⟩ 0 false false
      rw [hback, show i + kp.length = j by omega] at k2
      exact .cons hkey (.cons k2 (.nil _ _ _))) (bytes_runes s HA.out) (by omega) (by simp) (by simp))
    have HED4 := Go.Lib.hid (hed.same (Below.refl _ _).drew)
    have B4 : Hid (Below w.heap.size w w4) := B3.out.trans (o4.below (by omega) B3.out.size)
    have nat : ∀ j, w4.cell? ⟨w.heap.size, j, none⟩ = w3.cell? ⟨w.heap.size, j, none⟩ := fun j => World.cell?_of_block (w := w3) (o4.rest w.heap.size (by omega) (by omega))
    have nky : ∀ j, w4.cell? ⟨w2.heap.size + 1, j, none⟩ = w3.cell? ⟨w2.heap.size + 1, j, none⟩ := fun j => World.cell?_of_block (w := w3) (o4.rest (w2.heap.size + 1) (by omega) (by omega))
    have h0 := (nat 0).trans g0
    have h1 := (nat 1).trans g1
    have y0 := (nky 0).trans k0
    have y1 := (nky 1).trans k1
    have y2 := (nky 2).trans k2
    have y3 := (nky 3).trans k3
    have y4 := (nky 4).trans k4
    have zl : w.heap.size < w4.heap.size := by have := o4.size; omega
    have zk : w2.heap.size + 1 < w4.heap.size := by have := o4.size; omega
    have HLN := Go.Lib.hid (line_any eb _ _ _ _ _ _ HED4.out)
    rw [← ho] at HLN
    have hne : ((out.size : Int) == (s.size : Int)) = false := by simp; omega
    have hlt : (out.size : Int) < s.size := by omega
    have hw1' : IntKind.i64.wrap ((j : Int) - (i : Int)) = ((j - i : Nat) : Int) := by rw [IntWalk.i64_in _ (by omega)]; omega
    have hw2' : IntKind.i64.wrap ((s.size : Int) - (out.size : Int)) = ((j - i : Nat) : Int) := by rw [IntWalk.i64_in _ (by omega)]; omega
    obtain ⟨dd, hdd⟩ : ∃ dd, dd = j - i := ⟨_, rfl⟩
    rw [← hdd] at hw1' hw2'
    clear hed o4 hdo k0 k1 k2 k3 k4 g0 g1 nat nky hkey hl' hkp hkpl hll hback ho hos hdd HT
    go_wp2_with fail
    go_region_with (first | (go_at_call 11; (with_reducible refine (open_any eb _ _ _ _ _ _ HED4.out).mono ?_); rintro e w7 ⟨rfl, rfl⟩) | (go_at_call 12; (with_reducible refine HLN.out.mono ?_); rintro e w7 ⟨rfl, b7⟩; have r0 := (b7.cell (p := ⟨w.heap.size, 0, none⟩) zl).trans h0; have r1 := (b7.cell (p := ⟨w.heap.size, 1, none⟩) zl).trans h1; have q0 := (b7.cell (p := ⟨w2.heap.size + 1, 0, none⟩) zk).trans y0; have q1 := (b7.cell (p := ⟨w2.heap.size + 1, 1, none⟩) zk).trans y1; have q2 := (b7.cell (p := ⟨w2.heap.size + 1, 2, none⟩) zk).trans y2; have q3 := (b7.cell (p := ⟨w2.heap.size + 1, 3, none⟩) zk).trans y3; have q4 := (b7.cell (p := ⟨w2.heap.size + 1, 4, none⟩) zk).trans y4; have B7 : Hid (Below w.heap.size w w7) := B4.out.drew.trans (b7.mono B4.out.size); have zl7 : w.heap.size < w7.heap.size := Nat.lt_of_lt_of_le zl b7.size; have zk7 : w2.heap.size + 1 < w7.heap.size := Nat.lt_of_lt_of_le zk b7.size; clear b7))
    all_goals (try go_simp)
    all_goals (try go_wp2_with fail)
    all_goals
      refine (HX.out _ _ _ ?hn ?h).mono ?_
      case hn => rfl
      case h => rfl
      rintro e w8 ⟨rfl, b8⟩
      have B8 : Hid (Below w.heap.size w w8) := B7.out.trans (b8.mono B7.out.size)
      have s0 := (b8.cell (p := ⟨w.heap.size, 0, none⟩) zl7).trans r0
      have s1 := (b8.cell (p := ⟨w.heap.size, 1, none⟩) zl7).trans r1
      have t0 := (b8.cell (p := ⟨w2.heap.size + 1, 0, none⟩) zk7).trans q0
      have t1 := (b8.cell (p := ⟨w2.heap.size + 1, 1, none⟩) zk7).trans q1
      have t2 := (b8.cell (p := ⟨w2.heap.size + 1, 2, none⟩) zk7).trans q2
      have t3 := (b8.cell (p := ⟨w2.heap.size + 1, 3, none⟩) zk7).trans q3
      have t4 := (b8.cell (p := ⟨w2.heap.size + 1, 4, none⟩) zk7).trans q4
      have z8 : w.heap.size < w8.heap.size := Nat.lt_of_lt_of_le zl7 b8.size
      have z8k : w2.heap.size + 1 < w8.heap.size := Nat.lt_of_lt_of_le zk7 b8.size
      clear b8 r0 r1 q0 q1 q2 q3 q4 h0 h1 y0 y1 y2 y3 y4
      go_wp2_with fail
      refine (HY.out _ _ _ ?hn ?h).mono ?_
      case hn => simp
      case h => rfl
      rintro e w9 ⟨rfl, b9⟩
      have B9 : Hid (Below w.heap.size w w9) := (B8.out.alloc (by omega) _).trans (b9.mono (by simp; omega))
      have u0 : w9.cell? ⟨w.heap.size, 0, none⟩ = some (.string s) := (b9.cell (p := ⟨w.heap.size, 0, none⟩) (by simp; omega)).trans ((World.cell?_of_block (Below.heap_alloc _ _ _ z8)).trans s0)
      have u1 : w9.cell? ⟨w.heap.size, 1, none⟩ = some (.int .i64 (k : Nat)) := (b9.cell (p := ⟨w.heap.size, 1, none⟩) (by simp; omega)).trans ((World.cell?_of_block (Below.heap_alloc _ _ _ z8)).trans s1)
      have x0 : w9.cell? ⟨w8.heap.size, 0, none⟩ = some (.string out) := (b9.cell (p := ⟨w8.heap.size, 0, none⟩) (by simp)).trans (by simp [go_sem])
      have x1 : w9.cell? ⟨w8.heap.size, 1, none⟩ = some (.int .i64 (i : Nat)) := (b9.cell (p := ⟨w8.heap.size, 1, none⟩) (by simp)).trans (by simp [go_sem])
      have z9 : w8.heap.size < w9.heap.size := by have := b9.size; simp at this; omega
      have z9b : w.heap.size < w9.heap.size := by omega
      clear b9 s0 s1 t0 t1 t2 t3 t4
      go_wp2_with fail
      go_returns
      exact ⟨rfl, B9.out.alloc (by omega) _⟩
end fnTakenLeft
end Go.Proofs.YtdneljnldmhfoaaDoor
