/- Where words begin and end ahead of a cursor and behind it. -/
import Derived.Test.YtedjjimabchffaaWordsPlain
import Derived.Test.YtedjjimabchffaaDocTexts
namespace Go.Proofs.Ytedjjimabchffaa
open Go.RowKit
set_option linter.unusedVariables false
set_option linter.unusedSimpArgs false

theorem strIndex_any (s : ByteArray) (x : UInt8) (w : World) :
    Calls Try.prog 66 #[.string s, .int .u8 (x.toNat : Nat)] w fun e w' => e = .returned (.int .i64 (fst s (isB (x.toNat : Nat) false))) ∧ w = w' := by
  go_enter Try.func66, Try.ntmps66
  go_wp2_with fail
  refine (indexByte_any s x _).mono ?_
  rintro e w1 ⟨rfl, rfl⟩
  go_wp2_with fail
  go_returns
  exact ⟨rfl, rfl⟩

/-- A blank; a byte that is none. -/
def sp : Int → Bool := isB 32 false
def nsp : Int → Bool := isB 32 true
theorem lst_cast (x : ByteArray) (p : Int → Bool) : ((lst x p + 1).toNat : Int) = lst x p + 1 ∧ (lst x p + 1).toNat ≤ x.size := by
  have := lst_range x p x.size
  unfold lst; omega

/-- Where the word ahead of the end begins; with the blanks next to it passed over. -/
def wStart (x : ByteArray) : Nat := (lst x sp + 1).toNat
def wStartS (x : ByteArray) : Nat := if lst x nsp = -1 then 0 else wStart (x.extract 0 (lst x nsp).toNat)
/-- Where the word behind the beginning ends; with the blanks next to it passed over. -/
def wEnd (y : ByteArray) : Nat := if fst y sp = -1 then y.size else (fst y sp).toNat
def wEndS (y : ByteArray) : Nat := if fst y nsp = -1 then y.size else if fst (y.extract (fst y nsp).toNat y.size) sp = -1 then y.size else (fst y nsp).toNat + (fst (y.extract (fst y nsp).toNat y.size) sp).toNat

theorem wStart_le (x : ByteArray) : wStart x ≤ x.size := (lst_cast x sp).2
theorem wStartS_le (x : ByteArray) : wStartS x ≤ x.size := by
  unfold wStartS
  split
  · omega
  · have h1 := wStart_le (x.extract 0 (lst x nsp).toNat)
    rw [ByteArray.size_extract] at h1
    omega
theorem wEnd_le (y : ByteArray) : wEnd y ≤ y.size := by
  unfold wEnd
  split
  · omega
  · rcases fst_spec y sp with ⟨h, _⟩ | ⟨m, h1, h2, _⟩ <;> omega
theorem wEndS_le (y : ByteArray) : wEndS y ≤ y.size := by
  unfold wEndS
  split
  · omega
  · split
    · omega
    · rcases fst_spec y nsp with ⟨h, _⟩ | ⟨m, h1, h2, _⟩
      · omega
      · rcases fst_spec (y.extract (fst y nsp).toNat y.size) sp with ⟨h, _⟩ | ⟨n, g1, g2, _⟩
        · omega
        · rw [ByteArray.size_extract] at g1
          omega

theorem find_start_word (b : Nat) (s : ByteArray) (k : Nat) (w : World) (hd : DocAt w b s k) (hs : Small s) (hk : k ≤ s.size) :
    Calls Try.prog 58 #[.pointer (some ⟨b, 0, none⟩)] w fun e w' => e = .returned (.int .i64 (wStart (s.extract 0 k) : Nat)) ∧ Below w.heap.size w w' := by
  have hxs : (s.extract 0 k).size ≤ 1000 := by rw [size_sub s 0 k hk]; have := hs.2; omega
  obtain ⟨x, hx⟩ : ∃ x, x = s.extract 0 k := ⟨_, rfl⟩
  have hr := lst_range x sp x.size
  obtain ⟨z, hz⟩ : ∃ z, z = lst x sp := ⟨_, rfl⟩
  obtain ⟨r, hr0⟩ : ∃ r, r = wStart x := ⟨_, rfl⟩
  have hrz : Hid ((r : Int) = z + 1) := by rw [Hid, hr0, hz]; exact (lst_cast x sp).1
  rw [← hx] at hxs ⊢
  rw [show lstB x sp x.size = lst x sp from rfl, ← hz] at hr
  rw [← hr0]
  have HX := Go.Lib.hid hx
  have HZ := Go.Lib.hid hz
  clear hx hz hr0
  by_cases hm : z = -1
  · have hr0 : Hid (r = 0) := by have := hrz.out; rw [Hid]; omega
    subst hm
    go_enter Try.func58, Try.ntmps58
    go_wp2_with fail
    refine (before_any b s k w hd hs hk).mono ?_
    rw [← HX.out]
    rintro e w1 ⟨rfl, b1⟩
    go_wp2_with fail
    refine (lastByte_any x 32 _ (by omega)).mono ?_
    rw [show lst x (isB 32 false) = -1 from HZ.out.symm]
    rintro e w2 ⟨rfl, rfl⟩
    go_wp2_with fail
    go_returns
    exact ⟨by rw [hr0.out]; rfl, b1⟩
  · have hm' : (z != -1) = true := by simpa using hm
    clear hm
    go_enter Try.func58, Try.ntmps58
    go_wp2_with fail
    refine (before_any b s k w hd hs hk).mono ?_
    rw [← HX.out]
    rintro e w1 ⟨rfl, b1⟩
    go_wp2_with fail
    refine (lastByte_any x 32 _ (by omega)).mono ?_
    rw [show lst x (isB 32 false) = z from HZ.out.symm]
    rintro e w2 ⟨rfl, rfl⟩
    go_wp2_with fail
    go_returns
    exact ⟨by rw [hrz.out]; rfl, b1⟩

theorem find_end_word (b : Nat) (s : ByteArray) (k : Nat) (w : World) (hd : DocAt w b s k) (hs : Small s) (hk : k ≤ s.size) :
    Calls Try.prog 59 #[.pointer (some ⟨b, 0, none⟩)] w fun e w' => e = .returned (.int .i64 (wEnd (s.extract k s.size) : Nat)) ∧ Below w.heap.size w w' := by
  have hxs : (s.extract k s.size).size ≤ 1000 := by rw [size_sub s k s.size (Nat.le_refl _)]; have := hs.2; omega
  obtain ⟨y, hy⟩ : ∃ y, y = s.extract k s.size := ⟨_, rfl⟩
  rw [← hy] at hxs ⊢
  have HY := Go.Lib.hid hy
  clear hy
  rcases fst_spec y sp with ⟨h, _⟩ | ⟨m, h1, h2, _⟩
  · have hr : wEnd y = y.size := by unfold wEnd; rw [if_pos h]
    rw [hr]
    have HZ := Go.Lib.hid h
    clear h hr
    go_enter Try.func59, Try.ntmps59
    go_wp2_with fail
    refine (after_any b s k w hd hs hk).mono ?_
    rw [← HY.out]
    rintro e w1 ⟨rfl, b1⟩
    go_wp2_with fail
    refine (strIndex_any y 32 _).mono ?_
    rw [show fst y (isB ((32 : UInt8).toNat : Nat) false) = -1 from HZ.out]
    rintro e w2 ⟨rfl, rfl⟩
    go_wp2_with fail
    go_returns
    exact ⟨rfl, b1⟩
  · have hr : wEnd y = m := by unfold wEnd; rw [if_neg (by omega), h2]; rfl
    rw [hr]
    have HZ := Go.Lib.hid h2
    have hm' : ((m : Int) != -1) = true := by simp
    clear h2 hr
    go_enter Try.func59, Try.ntmps59
    go_wp2_with fail
    refine (after_any b s k w hd hs hk).mono ?_
    rw [← HY.out]
    rintro e w1 ⟨rfl, b1⟩
    go_wp2_with fail
    refine (strIndex_any y 32 _).mono ?_
    rw [show fst y (isB ((32 : UInt8).toNat : Nat) false) = m from HZ.out]
    rintro e w2 ⟨rfl, rfl⟩
    go_wp2_with fail
    go_returns
    exact ⟨rfl, b1⟩

theorem find_start_spaced (b : Nat) (s : ByteArray) (k : Nat) (w : World) (hd : DocAt w b s k) (hs : Small s) (hk : k ≤ s.size) :
    Calls Try.prog 60 #[.pointer (some ⟨b, 0, none⟩)] w fun e w' => e = .returned (.int .i64 (wStartS (s.extract 0 k) : Nat)) ∧ Below w.heap.size w w' := by
  have hxs : (s.extract 0 k).size ≤ 1000 := by rw [size_sub s 0 k hk]; have := hs.2; omega
  obtain ⟨x, hx⟩ : ∃ x, x = s.extract 0 k := ⟨_, rfl⟩
  rw [← hx] at hxs ⊢
  have HX := Go.Lib.hid hx
  clear hx
  rcases lstB_spec x nsp x.size with ⟨h, _⟩ | ⟨m, h1, h2, _⟩
  · have h : lst x nsp = -1 := h
    have hr : wStartS x = 0 := by unfold wStartS; rw [if_pos h]
    rw [hr]
    have HZ := Go.Lib.hid h
    clear h hr
    go_enter Try.func60, Try.ntmps60
    go_wp2_with fail
    refine (before_any b s k w hd hs hk).mono ?_
    rw [← HX.out]
    rintro e w1 ⟨rfl, b1⟩
    go_wp2_with fail
    refine (lastNot_any x 32 _ hxs).mono ?_
    rw [show lst x (isB 32 true) = -1 from HZ.out]
    rintro e w2 ⟨rfl, rfl⟩
    go_wp2_with fail
    go_returns
    exact ⟨rfl, b1⟩
  · have hl : lst x nsp = (m : Int) := h2
    have hr : wStartS x = wStart (x.extract 0 m) := by unfold wStartS; rw [if_neg (by omega), hl]; rfl
    rw [hr]
    have hys : (x.extract 0 m).size ≤ 1000 := by rw [size_sub x 0 m (by omega)]; omega
    have hmx : (m : Int) ≤ x.size := by omega
    have hm0 : ((m : Int) == -1) = false := by simp
    have hlr := lst_range (x.extract 0 m) sp (x.extract 0 m).size
    obtain ⟨y, hy⟩ : ∃ y, y = x.extract 0 m := ⟨_, rfl⟩
    obtain ⟨z, hz⟩ : ∃ z, z = lst y sp := ⟨_, rfl⟩
    obtain ⟨r, hr0⟩ : ∃ r, r = wStart y := ⟨_, rfl⟩
    have hrz : Hid ((r : Int) = z + 1) := by rw [Hid, hr0, hz]; exact (lst_cast y sp).1
    rw [← hy] at hys hlr ⊢
    rw [show lstB y sp y.size = lst y sp from rfl, ← hz] at hlr
    rw [← hr0]
    have HY := Go.Lib.hid hy
    have HZ := Go.Lib.hid hz
    have HM := Go.Lib.hid hl
    clear h2 hr hy hz hr0 hl
    by_cases hzm : z = -1
    · have hr0 : Hid (r = 0) := by have := hrz.out; rw [Hid]; omega
      subst hzm
      go_enter Try.func60, Try.ntmps60
      go_wp2_with fail
      refine (before_any b s k w hd hs hk).mono ?_
      rw [← HX.out]
      rintro e w1 ⟨rfl, b1⟩
      go_wp2_with fail
      refine (lastNot_any x 32 _ hxs).mono ?_
      rw [show lst x (isB 32 true) = (m : Int) from HM.out]
      rintro e w2 ⟨rfl, rfl⟩
      go_wp2_with fail
      rw [← HY.out]
      refine (lastByte_any y 32 _ hys).mono ?_
      rw [show lst y (isB 32 false) = -1 from HZ.out.symm]
      rintro e w2 ⟨rfl, rfl⟩
      go_wp2_with fail
      go_returns
      exact ⟨by rw [hr0.out]; rfl, b1⟩
    · have hzm' : (z == -1) = false := by simpa using hzm
      clear hzm
      go_enter Try.func60, Try.ntmps60
      go_wp2_with fail
      refine (before_any b s k w hd hs hk).mono ?_
      rw [← HX.out]
      rintro e w1 ⟨rfl, b1⟩
      go_wp2_with fail
      refine (lastNot_any x 32 _ hxs).mono ?_
      rw [show lst x (isB 32 true) = (m : Int) from HM.out]
      rintro e w2 ⟨rfl, rfl⟩
      go_wp2_with fail
      rw [← HY.out]
      refine (lastByte_any y 32 _ hys).mono ?_
      rw [show lst y (isB 32 false) = z from HZ.out.symm]
      rintro e w2 ⟨rfl, rfl⟩
      go_wp2_with fail
      go_returns
      exact ⟨by rw [hrz.out]; rfl, b1⟩

theorem find_end_spaced (b : Nat) (s : ByteArray) (k : Nat) (w : World) (hd : DocAt w b s k) (hs : Small s) (hk : k ≤ s.size) :
    Calls Try.prog 61 #[.pointer (some ⟨b, 0, none⟩)] w fun e w' => e = .returned (.int .i64 (wEndS (s.extract k s.size) : Nat)) ∧ Below w.heap.size w w' := by
  have hxs : (s.extract k s.size).size ≤ 1000 := by rw [size_sub s k s.size (Nat.le_refl _)]; have := hs.2; omega
  obtain ⟨y, hy⟩ : ∃ y, y = s.extract k s.size := ⟨_, rfl⟩
  rw [← hy] at hxs ⊢
  have HY := Go.Lib.hid hy
  clear hy
  rcases fst_spec y nsp with ⟨h, _⟩ | ⟨m, h1, h2, _⟩
  · have hr : wEndS y = y.size := by unfold wEndS; rw [if_pos h]
    rw [hr]
    have HZ := Go.Lib.hid h
    clear h hr
    go_enter Try.func61, Try.ntmps61
    go_wp2_with fail
    refine (after_any b s k w hd hs hk).mono ?_
    rw [← HY.out]
    rintro e w1 ⟨rfl, b1⟩
    go_wp2_with fail
    refine (indexNot_any y 32 _ hxs).mono ?_
    rw [show fst y (isB 32 true) = -1 from HZ.out]
    rintro e w2 ⟨rfl, rfl⟩
    go_wp2_with fail
    go_returns
    exact ⟨rfl, b1⟩
  · have hmx : (m : Int) ≤ y.size := by omega
    have hm0 : ((m : Int) == -1) = false := by simp
    have HM := Go.Lib.hid h2
    obtain ⟨v, hv⟩ : ∃ v, v = y.extract m y.size := ⟨_, rfl⟩
    rcases fst_spec v sp with ⟨h, _⟩ | ⟨n, g1, g2, _⟩
    · have hr : wEndS y = y.size := by unfold wEndS; rw [if_neg (by omega), h2, Int.toNat_natCast, ← hv, if_pos h]
      rw [hr]
      have HZ := Go.Lib.hid h
      have HV := Go.Lib.hid hv
      clear h hr h2 hv
      go_enter Try.func61, Try.ntmps61
      go_wp2_with fail
      refine (after_any b s k w hd hs hk).mono ?_
      rw [← HY.out]
      rintro e w1 ⟨rfl, b1⟩
      go_wp2_with fail
      refine (indexNot_any y 32 _ hxs).mono ?_
      rw [show fst y (isB 32 true) = (m : Int) from HM.out]
      rintro e w2 ⟨rfl, rfl⟩
      go_wp2_with fail
      rw [← HV.out]
      refine (strIndex_any v 32 _).mono ?_
      rw [show fst v (isB ((32 : UInt8).toNat : Nat) false) = -1 from HZ.out]
      rintro e w2 ⟨rfl, rfl⟩
      go_wp2_with fail
      go_returns
      exact ⟨rfl, b1⟩
    · have hvs : v.size ≤ y.size := by rw [hv, ByteArray.size_extract]; omega
      have hr : wEndS y = m + n := by unfold wEndS; rw [if_neg (by omega), h2, Int.toNat_natCast, ← hv, if_neg (by omega), g2]; rfl
      rw [hr]
      have HZ := Go.Lib.hid g2
      have HV := Go.Lib.hid hv
      have hn0 : ((n : Int) == -1) = false := by simp
      clear g2 hr h2 hv
      go_enter Try.func61, Try.ntmps61
      go_wp2_with fail
      refine (after_any b s k w hd hs hk).mono ?_
      rw [← HY.out]
      rintro e w1 ⟨rfl, b1⟩
      go_wp2_with fail
      refine (indexNot_any y 32 _ hxs).mono ?_
      rw [show fst y (isB 32 true) = (m : Int) from HM.out]
      rintro e w2 ⟨rfl, rfl⟩
      go_wp2_with fail
      rw [← HV.out]
      refine (strIndex_any v 32 _).mono ?_
      rw [show fst v (isB ((32 : UInt8).toNat : Nat) false) = (n : Int) from HZ.out]
      rintro e w2 ⟨rfl, rfl⟩
      go_wp2_with fail
      go_returns
      exact ⟨by first | rfl | (rw [Int.natCast_add]; rfl), b1⟩

theorem word_before (b : Nat) (s : ByteArray) (k : Nat) (w : World) (hd : DocAt w b s k) (hs : Small s) (hk : k ≤ s.size) :
    Calls Try.prog 39 #[.pointer (some ⟨b, 0, none⟩)] w fun e w' => e = .returned (.string ((s.extract 0 k).extract (wStart (s.extract 0 k)) (s.extract 0 k).size)) ∧ Below w.heap.size w w' := by
  have hxs : (s.extract 0 k).size ≤ 1000 := by rw [size_sub s _ _ (by omega)]; have := hs.2; omega
  have hle := wStart_le (s.extract 0 k)
  obtain ⟨x, hx⟩ : ∃ x, x = s.extract 0 k := ⟨_, rfl⟩
  rw [← hx] at hxs hle ⊢
  obtain ⟨n, hn⟩ : ∃ n, n = wStart x := ⟨_, rfl⟩
  rw [← hn] at hle ⊢
  have HX := Go.Lib.hid hx
  have HN := Go.Lib.hid hn
  have HD := Go.Lib.hid hd
  have hnx : (n : Int) ≤ x.size := by omega
  have hn0 : (0 : Int) ≤ n := by omega
  clear hx hn hd
  go_enter Try.func39, Try.ntmps39
  go_wp2_with fail
  refine (before_any b s k w HD.out hs hk).mono ?_
  rw [← HX.out]
  rintro e w1 ⟨rfl, b1⟩
  go_wp2_with fail
  refine (find_start_word b s k w1 (HD.out.below b1) hs hk).mono ?_
  rw [← HX.out, ← HN.out]
  rintro e w2 ⟨rfl, b2⟩
  have b12 := b1.trans (b2.mono b1.size)
  clear b1 b2
  go_wp2_with fail
  go_returns
  exact ⟨rfl, b12⟩

theorem word_before_spaced (b : Nat) (s : ByteArray) (k : Nat) (w : World) (hd : DocAt w b s k) (hs : Small s) (hk : k ≤ s.size) :
    Calls Try.prog 41 #[.pointer (some ⟨b, 0, none⟩)] w fun e w' => e = .returned (.string ((s.extract 0 k).extract (wStartS (s.extract 0 k)) (s.extract 0 k).size)) ∧ Below w.heap.size w w' := by
  have hxs : (s.extract 0 k).size ≤ 1000 := by rw [size_sub s _ _ (by omega)]; have := hs.2; omega
  have hle := wStartS_le (s.extract 0 k)
  obtain ⟨x, hx⟩ : ∃ x, x = s.extract 0 k := ⟨_, rfl⟩
  rw [← hx] at hxs hle ⊢
  obtain ⟨n, hn⟩ : ∃ n, n = wStartS x := ⟨_, rfl⟩
  rw [← hn] at hle ⊢
  have HX := Go.Lib.hid hx
  have HN := Go.Lib.hid hn
  have HD := Go.Lib.hid hd
  have hnx : (n : Int) ≤ x.size := by omega
  have hn0 : (0 : Int) ≤ n := by omega
  clear hx hn hd
  go_enter Try.func41, Try.ntmps41
  go_wp2_with fail
  refine (before_any b s k w HD.out hs hk).mono ?_
  rw [← HX.out]
  rintro e w1 ⟨rfl, b1⟩
  go_wp2_with fail
  refine (find_start_spaced b s k w1 (HD.out.below b1) hs hk).mono ?_
  rw [← HX.out, ← HN.out]
  rintro e w2 ⟨rfl, b2⟩
  have b12 := b1.trans (b2.mono b1.size)
  clear b1 b2
  go_wp2_with fail
  go_returns
  exact ⟨rfl, b12⟩

theorem word_after (b : Nat) (s : ByteArray) (k : Nat) (w : World) (hd : DocAt w b s k) (hs : Small s) (hk : k ≤ s.size) :
    Calls Try.prog 40 #[.pointer (some ⟨b, 0, none⟩)] w fun e w' => e = .returned (.string ((s.extract k s.size).extract 0 (wEnd (s.extract k s.size)))) ∧ Below w.heap.size w w' := by
  have hxs : (s.extract k s.size).size ≤ 1000 := by rw [size_sub s _ _ (by omega)]; have := hs.2; omega
  have hle := wEnd_le (s.extract k s.size)
  obtain ⟨x, hx⟩ : ∃ x, x = s.extract k s.size := ⟨_, rfl⟩
  rw [← hx] at hxs hle ⊢
  obtain ⟨n, hn⟩ : ∃ n, n = wEnd x := ⟨_, rfl⟩
  rw [← hn] at hle ⊢
  have HX := Go.Lib.hid hx
  have HN := Go.Lib.hid hn
  have HD := Go.Lib.hid hd
  have hnx : (n : Int) ≤ x.size := by omega
  have hn0 : (0 : Int) ≤ n := by omega
  clear hx hn hd
  go_enter Try.func40, Try.ntmps40
  go_wp2_with fail
  refine (after_any b s k w HD.out hs hk).mono ?_
  rw [← HX.out]
  rintro e w1 ⟨rfl, b1⟩
  go_wp2_with fail
  refine (find_end_word b s k w1 (HD.out.below b1) hs hk).mono ?_
  rw [← HX.out, ← HN.out]
  rintro e w2 ⟨rfl, b2⟩
  have b12 := b1.trans (b2.mono b1.size)
  clear b1 b2
  go_wp2_with fail
  go_returns
  exact ⟨rfl, b12⟩

theorem word_after_spaced (b : Nat) (s : ByteArray) (k : Nat) (w : World) (hd : DocAt w b s k) (hs : Small s) (hk : k ≤ s.size) :
    Calls Try.prog 42 #[.pointer (some ⟨b, 0, none⟩)] w fun e w' => e = .returned (.string ((s.extract k s.size).extract 0 (wEndS (s.extract k s.size)))) ∧ Below w.heap.size w w' := by
  have hxs : (s.extract k s.size).size ≤ 1000 := by rw [size_sub s _ _ (by omega)]; have := hs.2; omega
  have hle := wEndS_le (s.extract k s.size)
  obtain ⟨x, hx⟩ : ∃ x, x = s.extract k s.size := ⟨_, rfl⟩
  rw [← hx] at hxs hle ⊢
  obtain ⟨n, hn⟩ : ∃ n, n = wEndS x := ⟨_, rfl⟩
  rw [← hn] at hle ⊢
  have HX := Go.Lib.hid hx
  have HN := Go.Lib.hid hn
  have HD := Go.Lib.hid hd
  have hnx : (n : Int) ≤ x.size := by omega
  have hn0 : (0 : Int) ≤ n := by omega
  clear hx hn hd
  go_enter Try.func42, Try.ntmps42
  go_wp2_with fail
  refine (after_any b s k w HD.out hs hk).mono ?_
  rw [← HX.out]
  rintro e w1 ⟨rfl, b1⟩
  go_wp2_with fail
  refine (find_end_spaced b s k w1 (HD.out.below b1) hs hk).mono ?_
  rw [← HX.out, ← HN.out]
  rintro e w2 ⟨rfl, b2⟩
  have b12 := b1.trans (b2.mono b1.size)
  clear b1 b2
  go_wp2_with fail
  go_returns
  exact ⟨rfl, b12⟩
end Go.Proofs.Ytedjjimabchffaa
