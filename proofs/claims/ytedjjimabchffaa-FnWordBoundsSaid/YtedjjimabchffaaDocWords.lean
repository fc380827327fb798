/- The text ahead of a cursor and behind it; where words begin and end there: of the program and of the reference. -/
import Derived.Test.YtedjjimabchffaaWordsPlain
namespace Go.Proofs.Ytedjjimabchffaa
open Go.RowKit
set_option linter.unusedVariables false
set_option linter.unusedSimpArgs false

theorem add_plain (B k j : Nat) : (⟨B, k, none⟩ : Addr).add j = ⟨B, k + j, none⟩ := by
  unfold Addr.add
  by_cases e : j = 0
  · rw [if_pos e, e]; rfl
  · rw [if_neg e]

/-- Some of a text's code points that lie in memory, as a text. -/
theorem conv_sub (W : World) (B i n cap : Nat) (s : ByteArray) (ha : IsAscii s) (h : i + n ≤ s.size) (hc : ∀ j, i ≤ j → j < i + n → W.cell? ⟨B, j, none⟩ = some (.int .i32 (nth (runes s) j))) :
    (convert 53 9 (.slice (some ⟨B, i, none⟩) n cap)).run Try.prog W = .ok (.string (s.extract i (i + n))) W := by
  have hl := runes_ascii_length s ha
  have := run_convert_runes (P := Try.prog) W 53 9 21 ⟨B, i, none⟩ n cap (((runes s).drop i).take n) (by simp; omega) Try.underlying53 Try.underlying21 Try.underlying9 (fun j hj => by
    simp at hj
    rw [add_plain, hc (i + j) (by omega) (by omega)]
    unfold nth
    simp [List.getD, List.getElem?_take_of_lt (show j < n by omega)])
  rw [this, List.take_of_length_le (by simp; omega), show n = i + n - i by omega, runesBytes_sub s ha]
  rw [show i + (i + n - i) = i + n by omega]

theorem conv_none (W : World) (a : Option Addr) (cap : Nat) : (convert 53 9 (.slice a 0 cap)).run Try.prog W = .ok (.string ⟨#[]⟩) W := by
  cases a with
  | none => exact run_convert_runes_nil (P := Try.prog) W 53 9 21 0 cap Try.underlying53 Try.underlying21 Try.underlying9
  | some a =>
    have := run_convert_runes (P := Try.prog) W 53 9 21 a 0 cap [] (Nat.zero_le _) Try.underlying53 Try.underlying21 Try.underlying9 (fun j hj => by simp at hj)
    rw [show (⟨#[]⟩ : ByteArray) = ByteArray.empty from rfl]
    simpa [runesBytes] using this

theorem sizeI32 (w : World) : (sizeOf (Try.prog.elem 53)).run Try.prog w = .ok 1 w := by kernel_rfl

/-- A slice's tail: its address is known where something stands in it. -/
theorem run_cut {P : Program} (t e : TypeId) (ht : P.underlying t = some (.slice e)) (hi : ∀ w, (sizeOf (P.elem t)).run P w = .ok 1 w) (g o n cap l : Nat) (l' : Int) (hl' : l' = l) (hl : l ≤ n) (hc : n ≤ cap) :
    ∃ A, (∀ w, (Instr.slice t (.slice (some ⟨g, o, none⟩) n cap) (some (.int .i64 l')) none none).run P w = .ok (.slice A (n - l) (cap - l)) w) ∧ (l < cap → A = some ⟨g, o + l, none⟩) := by
  subst hl'
  refine ⟨if cap = l then some ⟨g, o, none⟩ else some ⟨g, o + l, none⟩, fun w => ?_, fun h => by rw [if_neg (by omega)]⟩
  have he : P.elem t = e := by simp [Program.elem, ht]
  rw [run_slice_l w t _ n cap (by rw [he]; exact ht) .i64 l (by omega) (by omega), hi]
  simp only [Result.andThen, sliced, Nat.mul_one, Int.toNat_natCast]
  by_cases h : cap = l
  · rw [if_pos h, if_pos h]
  · rw [if_neg h, if_neg h]
    simp only [Option.map_some, Addr.add]
    by_cases h0 : l = 0
    · rw [if_pos h0, h0]; rfl
    · rw [if_neg h0]

/-- The tail of the code points that were just made of a text, as a text. -/
theorem conv_tail (W : World) (A : Option Addr) (B k cap : Nat) (s : ByteArray) (ha : IsAscii s) (hk : k ≤ s.size) (hcap : s.size ≤ cap) (hA : k < cap → A = some ⟨B, 0 + k, none⟩) (hc : ∀ j, j < s.size → W.cell? ⟨B, j, none⟩ = some (.int .i32 (nth (runes s) j))) (c2 : Nat) :
    (convert 53 9 (.slice A (s.size - k) c2)).run Try.prog W = .ok (.string (s.extract k s.size)) W := by
  by_cases h : k = s.size
  · subst h
    rw [Nat.sub_self, conv_none]
    have : s.extract s.size s.size = ⟨#[]⟩ := by
      apply ba_ext; rw [extract_list]; simp
    rw [this]
  · rw [hA (by omega), Nat.zero_add]
    have := conv_sub W B k (s.size - k) c2 s ha (by omega) (fun j h1 h2 => hc j (by omega))
    rwa [show k + (s.size - k) = s.size by omega] at this

theorem before_any (b : Nat) (s : ByteArray) (k : Nat) (w : World) (hd : DocAt w b s k) (hs : Small s) (hk : k ≤ s.size) :
    Calls Try.prog 29 #[.pointer (some ⟨b, 0, none⟩)] w fun e w' => e = .returned (.string (s.extract 0 k)) ∧ Below w.heap.size w w' := by
  obtain ⟨c0, c1, hb⟩ := hd
  obtain ⟨ha, hsz⟩ := hs
  have hcv := fun w => run_runes (P := Try.prog) w 9 53 21 s Try.underlying9 Try.underlying53 Try.underlying21 (by omega)
  have hl := runes_ascii_length s ha
  have hcap := runeCap_ge w 21 s
  have hrow : ∀ j, j < s.size → (runeCells s (runeCap w 21 s))[j]? = some (.int .i32 (nth (runes s) j)) := fun j hj => runeCells_at s _ j (by omega)
  rw [hl] at hcv hcap
  obtain ⟨cap, hcp⟩ : ∃ cap, cap = runeCap w 21 s := ⟨_, rfl⟩
  have hcv0 := hcv w
  rw [← hcp] at hcv0 hcap hrow
  have hconv : (convert 53 9 (.slice (some ⟨w.heap.size, 0, none⟩) k cap)).run Try.prog (w.alloc (.cells (runeCells s cap) 21)).drew = .ok (.string (s.extract 0 k)) (w.alloc (.cells (runeCells s cap) 21)).drew := by
    have := conv_sub (w.alloc (.cells (runeCells s cap) 21)).drew w.heap.size 0 k cap s ha (by omega) (fun j _ h2 => by simp [hrow j (by omega)])
    simpa using this
  have hk0 : (0 : Int) ≤ k := by omega
  have hk1 : (k : Int) ≤ cap := by omega
  clear hcv hl hrow ha hcp
  go_enter Try.func29, Try.ntmps29
  go_wp2_with fail
  go_returns
  exact ⟨rfl, ((Below.refl _ _).alloc (Nat.le_refl _) _).drew⟩

theorem after_any (b : Nat) (s : ByteArray) (k : Nat) (w : World) (hd : DocAt w b s k) (hs : Small s) (hk : k ≤ s.size) :
    Calls Try.prog 30 #[.pointer (some ⟨b, 0, none⟩)] w fun e w' => e = .returned (.string (s.extract k s.size)) ∧ Below w.heap.size w w' := by
  obtain ⟨c0, c1, hb⟩ := hd
  obtain ⟨ha, hsz⟩ := hs
  have hcv := fun w => run_runes (P := Try.prog) w 9 53 21 s Try.underlying9 Try.underlying53 Try.underlying21 (by omega)
  have hl := runes_ascii_length s ha
  have hcap := runeCap_ge w 21 s
  have hrow : ∀ j, j < s.size → (runeCells s (runeCap w 21 s))[j]? = some (.int .i32 (nth (runes s) j)) := fun j hj => runeCells_at s _ j (by omega)
  rw [hl] at hcv hcap
  obtain ⟨cap, hcp⟩ : ∃ cap, cap = runeCap w 21 s := ⟨_, rfl⟩
  have hcv0 := hcv w
  rw [← hcp] at hcv0 hcap hrow
  obtain ⟨A, hA, hA2⟩ := run_cut (P := Try.prog) 53 21 Try.underlying53 sizeI32 w.heap.size 0 s.size cap k k rfl hk hcap
  have hconv : (convert 53 9 (.slice A (s.size - k) (cap - k))).run Try.prog (w.alloc (.cells (runeCells s cap) 21)).drew = .ok (.string (s.extract k s.size)) (w.alloc (.cells (runeCells s cap) 21)).drew :=
    conv_tail _ A w.heap.size k cap s ha hk hcap hA2 (fun j hj => by simp [hrow j hj]) _
  clear hcv hl hrow ha hcp hA2
  go_enter Try.func30, Try.ntmps30
  go_wp2_with fail
  go_returns
  exact ⟨rfl, ((Below.refl _ _).alloc (Nat.le_refl _) _).drew⟩

theorem strIndex_any (s : ByteArray) (x : UInt8) (w : World) :
    Calls Try.prog 66 #[.string s, .int .u8 (x.toNat : Nat)] w fun e w' => e = .returned (.int .i64 (fst s (isB (x.toNat : Nat) false))) ∧ w = w' := by
  go_enter Try.func66, Try.ntmps66
  go_wp2_with fail
  refine (indexByte_any s x _).mono ?_
  rintro e w1 ⟨rfl, rfl⟩
  go_wp2_with fail
  go_returns
  exact ⟨rfl, rfl⟩

/-- A blank; a byte that is none. -/
def sp : Int → Bool := isB 32 false
def nsp : Int → Bool := isB 32 true
theorem lst_cast (x : ByteArray) (p : Int → Bool) : ((lst x p + 1).toNat : Int) = lst x p + 1 ∧ (lst x p + 1).toNat ≤ x.size := by
  have := lst_range x p x.size
  unfold lst; omega

/-- Where the word ahead of the end begins; with the blanks next to it passed over. -/
def wStart (x : ByteArray) : Nat := (lst x sp + 1).toNat
def wStartS (x : ByteArray) : Nat := if lst x nsp = -1 then 0 else wStart (x.extract 0 (lst x nsp).toNat)
/-- Where the word behind the beginning ends; with the blanks next to it passed over. -/
def wEnd (y : ByteArray) : Nat := if fst y sp = -1 then y.size else (fst y sp).toNat
def wEndS (y : ByteArray) : Nat := if fst y nsp = -1 then y.size else if fst (y.extract (fst y nsp).toNat y.size) sp = -1 then y.size else (fst y nsp).toNat + (fst (y.extract (fst y nsp).toNat y.size) sp).toNat

theorem wStart_le (x : ByteArray) : wStart x ≤ x.size := (lst_cast x sp).2
theorem wStartS_le (x : ByteArray) : wStartS x ≤ x.size := by
  unfold wStartS
  split
  · omega
  · have h1 := wStart_le (x.extract 0 (lst x nsp).toNat)
    rw [ByteArray.size_extract] at h1
    omega
theorem wEnd_le (y : ByteArray) : wEnd y ≤ y.size := by
  unfold wEnd
  split
  · omega
  · rcases fst_spec y sp with ⟨h, _⟩ | ⟨m, h1, h2, _⟩ <;> omega
theorem wEndS_le (y : ByteArray) : wEndS y ≤ y.size := by
  unfold wEndS
  split
  · omega
  · split
    · omega
    · rcases fst_spec y nsp with ⟨h, _⟩ | ⟨m, h1, h2, _⟩
      · omega
      · rcases fst_spec (y.extract (fst y nsp).toNat y.size) sp with ⟨h, _⟩ | ⟨n, g1, g2, _⟩
        · omega
        · rw [ByteArray.size_extract] at g1
          omega

theorem find_start_word (b : Nat) (s : ByteArray) (k : Nat) (w : World) (hd : DocAt w b s k) (hs : Small s) (hk : k ≤ s.size) :
    Calls Try.prog 58 #[.pointer (some ⟨b, 0, none⟩)] w fun e w' => e = .returned (.int .i64 (wStart (s.extract 0 k) : Nat)) ∧ Below w.heap.size w w' := by
  have hxs : (s.extract 0 k).size ≤ 1000 := by rw [size_sub s 0 k hk]; have := hs.2; omega
  obtain ⟨x, hx⟩ : ∃ x, x = s.extract 0 k := ⟨_, rfl⟩
  have hr := lst_range x sp x.size
  obtain ⟨z, hz⟩ : ∃ z, z = lst x sp := ⟨_, rfl⟩
  obtain ⟨r, hr0⟩ : ∃ r, r = wStart x := ⟨_, rfl⟩
  have hrz : Hid ((r : Int) = z + 1) := by rw [Hid, hr0, hz]; exact (lst_cast x sp).1
  rw [← hx] at hxs ⊢
  rw [show lstB x sp x.size = lst x sp from rfl, ← hz] at hr
  rw [← hr0]
  have HX := Go.Lib.hid hx
  have HZ := Go.Lib.hid hz
  clear hx hz hr0
  by_cases hm : z = -1
  · have hr0 : Hid (r = 0) := by have := hrz.out; rw [Hid]; omega
    subst hm
    go_enter Try.func58, Try.ntmps58
    go_wp2_with fail
    refine (before_any b s k w hd hs hk).mono ?_
    rw [← HX.out]
    rintro e w1 ⟨rfl, b1⟩
    go_wp2_with fail
    refine (lastByte_any x 32 _ (by omega)).mono ?_
    rw [show lst x (isB 32 false) = -1 from HZ.out.symm]
    rintro e w2 ⟨rfl, rfl⟩
    go_wp2_with fail
    go_returns
    exact ⟨by rw [hr0.out]; rfl, b1⟩
  · have hm' : (z != -1) = true := by simpa using hm
    clear hm
    go_enter Try.func58, Try.ntmps58
    go_wp2_with fail
    refine (before_any b s k w hd hs hk).mono ?_
    rw [← HX.out]
    rintro e w1 ⟨rfl, b1⟩
    go_wp2_with fail
    refine (lastByte_any x 32 _ (by omega)).mono ?_
    rw [show lst x (isB 32 false) = z from HZ.out.symm]
    rintro e w2 ⟨rfl, rfl⟩
    go_wp2_with fail
    go_returns
    exact ⟨by rw [hrz.out]; rfl, b1⟩

theorem find_end_word (b : Nat) (s : ByteArray) (k : Nat) (w : World) (hd : DocAt w b s k) (hs : Small s) (hk : k ≤ s.size) :
    Calls Try.prog 59 #[.pointer (some ⟨b, 0, none⟩)] w fun e w' => e = .returned (.int .i64 (wEnd (s.extract k s.size) : Nat)) ∧ Below w.heap.size w w' := by
  have hxs : (s.extract k s.size).size ≤ 1000 := by rw [size_sub s k s.size (Nat.le_refl _)]; have := hs.2; omega
  obtain ⟨y, hy⟩ : ∃ y, y = s.extract k s.size := ⟨_, rfl⟩
  rw [← hy] at hxs ⊢
  have HY := Go.Lib.hid hy
  clear hy
  rcases fst_spec y sp with ⟨h, _⟩ | ⟨m, h1, h2, _⟩
  · have hr : wEnd y = y.size := by unfold wEnd; rw [if_pos h]
    rw [hr]
    have HZ := Go.Lib.hid h
    clear h hr
    go_enter Try.func59, Try.ntmps59
    go_wp2_with fail
    refine (after_any b s k w hd hs hk).mono ?_
    rw [← HY.out]
    rintro e w1 ⟨rfl, b1⟩
    go_wp2_with fail
    refine (strIndex_any y 32 _).mono ?_
    rw [show fst y (isB ((32 : UInt8).toNat : Nat) false) = -1 from HZ.out]
    rintro e w2 ⟨rfl, rfl⟩
    go_wp2_with fail
    go_returns
    exact ⟨rfl, b1⟩
  · have hr : wEnd y = m := by unfold wEnd; rw [if_neg (by omega), h2]; rfl
    rw [hr]
    have HZ := Go.Lib.hid h2
    have hm' : ((m : Int) != -1) = true := by simp
    clear h2 hr
    go_enter Try.func59, Try.ntmps59
    go_wp2_with fail
    refine (after_any b s k w hd hs hk).mono ?_
    rw [← HY.out]
    rintro e w1 ⟨rfl, b1⟩
    go_wp2_with fail
    refine (strIndex_any y 32 _).mono ?_
    rw [show fst y (isB ((32 : UInt8).toNat : Nat) false) = m from HZ.out]
    rintro e w2 ⟨rfl, rfl⟩
    go_wp2_with fail
    go_returns
    exact ⟨rfl, b1⟩

theorem find_start_spaced (b : Nat) (s : ByteArray) (k : Nat) (w : World) (hd : DocAt w b s k) (hs : Small s) (hk : k ≤ s.size) :
    Calls Try.prog 60 #[.pointer (some ⟨b, 0, none⟩)] w fun e w' => e = .returned (.int .i64 (wStartS (s.extract 0 k) : Nat)) ∧ Below w.heap.size w w' := by
  have hxs : (s.extract 0 k).size ≤ 1000 := by rw [size_sub s 0 k hk]; have := hs.2; omega
  obtain ⟨x, hx⟩ : ∃ x, x = s.extract 0 k := ⟨_, rfl⟩
  rw [← hx] at hxs ⊢
  have HX := Go.Lib.hid hx
  clear hx
  rcases lstB_spec x nsp x.size with ⟨h, _⟩ | ⟨m, h1, h2, _⟩
  · have h : lst x nsp = -1 := h
    have hr : wStartS x = 0 := by unfold wStartS; rw [if_pos h]
    rw [hr]
    have HZ := Go.Lib.hid h
    clear h hr
    go_enter Try.func60, Try.ntmps60
    go_wp2_with fail
    refine (before_any b s k w hd hs hk).mono ?_
    rw [← HX.out]
    rintro e w1 ⟨rfl, b1⟩
    go_wp2_with fail
    refine (lastNot_any x 32 _ hxs).mono ?_
    rw [show lst x (isB 32 true) = -1 from HZ.out]
    rintro e w2 ⟨rfl, rfl⟩
    go_wp2_with fail
    go_returns
    exact ⟨rfl, b1⟩
  · have hl : lst x nsp = (m : Int) := h2
    have hr : wStartS x = wStart (x.extract 0 m) := by unfold wStartS; rw [if_neg (by omega), hl]; rfl
    rw [hr]
    have hys : (x.extract 0 m).size ≤ 1000 := by rw [size_sub x 0 m (by omega)]; omega
    have hmx : (m : Int) ≤ x.size := by omega
    have hm0 : ((m : Int) == -1) = false := by simp
    have hlr := lst_range (x.extract 0 m) sp (x.extract 0 m).size
    obtain ⟨y, hy⟩ : ∃ y, y = x.extract 0 m := ⟨_, rfl⟩
    obtain ⟨z, hz⟩ : ∃ z, z = lst y sp := ⟨_, rfl⟩
    obtain ⟨r, hr0⟩ : ∃ r, r = wStart y := ⟨_, rfl⟩
    have hrz : Hid ((r : Int) = z + 1) := by rw [Hid, hr0, hz]; exact (lst_cast y sp).1
    rw [← hy] at hys hlr ⊢
    rw [show lstB y sp y.size = lst y sp from rfl, ← hz] at hlr
    rw [← hr0]
    have HY := Go.Lib.hid hy
    have HZ := Go.Lib.hid hz
    have HM := Go.Lib.hid hl
    clear h2 hr hy hz hr0 hl
    by_cases hzm : z = -1
    · have hr0 : Hid (r = 0) := by have := hrz.out; rw [Hid]; omega
      subst hzm
      go_enter Try.func60, Try.ntmps60
      go_wp2_with fail
      refine (before_any b s k w hd hs hk).mono ?_
      rw [← HX.out]
      rintro e w1 ⟨rfl, b1⟩
      go_wp2_with fail
      refine (lastNot_any x 32 _ hxs).mono ?_
      rw [show lst x (isB 32 true) = (m : Int) from HM.out]
      rintro e w2 ⟨rfl, rfl⟩
      go_wp2_with fail
      rw [← HY.out]
      refine (lastByte_any y 32 _ hys).mono ?_
      rw [show lst y (isB 32 false) = -1 from HZ.out.symm]
      rintro e w2 ⟨rfl, rfl⟩
      go_wp2_with fail
      go_returns
      exact ⟨by rw [hr0.out]; rfl, b1⟩
    · have hzm' : (z == -1) = false := by simpa using hzm
      clear hzm
      go_enter Try.func60, Try.ntmps60
      go_wp2_with fail
      refine (before_any b s k w hd hs hk).mono ?_
      rw [← HX.out]
      rintro e w1 ⟨rfl, b1⟩
      go_wp2_with fail
      refine (lastNot_any x 32 _ hxs).mono ?_
      rw [show lst x (isB 32 true) = (m : Int) from HM.out]
      rintro e w2 ⟨rfl, rfl⟩
      go_wp2_with fail
      rw [← HY.out]
      refine (lastByte_any y 32 _ hys).mono ?_
      rw [show lst y (isB 32 false) = z from HZ.out.symm]
      rintro e w2 ⟨rfl, rfl⟩
      go_wp2_with fail
      go_returns
      exact ⟨by rw [hrz.out]; rfl, b1⟩

theorem find_end_spaced (b : Nat) (s : ByteArray) (k : Nat) (w : World) (hd : DocAt w b s k) (hs : Small s) (hk : k ≤ s.size) :
    Calls Try.prog 61 #[.pointer (some ⟨b, 0, none⟩)] w fun e w' => e = .returned (.int .i64 (wEndS (s.extract k s.size) : Nat)) ∧ Below w.heap.size w w' := by
  have hxs : (s.extract k s.size).size ≤ 1000 := by rw [size_sub s k s.size (Nat.le_refl _)]; have := hs.2; omega
  obtain ⟨y, hy⟩ : ∃ y, y = s.extract k s.size := ⟨_, rfl⟩
  rw [← hy] at hxs ⊢
  have HY := Go.Lib.hid hy
  clear hy
  rcases fst_spec y nsp with ⟨h, _⟩ | ⟨m, h1, h2, _⟩
  · have hr : wEndS y = y.size := by unfold wEndS; rw [if_pos h]
    rw [hr]
    have HZ := Go.Lib.hid h
    clear h hr
    go_enter Try.func61, Try.ntmps61
    go_wp2_with fail
    refine (after_any b s k w hd hs hk).mono ?_
    rw [← HY.out]
    rintro e w1 ⟨rfl, b1⟩
    go_wp2_with fail
    refine (indexNot_any y 32 _ hxs).mono ?_
    rw [show fst y (isB 32 true) = -1 from HZ.out]
    rintro e w2 ⟨rfl, rfl⟩
    go_wp2_with fail
    go_returns
    exact ⟨rfl, b1⟩
  · have hmx : (m : Int) ≤ y.size := by omega
    have hm0 : ((m : Int) == -1) = false := by simp
    have HM := Go.Lib.hid h2
    obtain ⟨v, hv⟩ : ∃ v, v = y.extract m y.size := ⟨_, rfl⟩
    rcases fst_spec v sp with ⟨h, _⟩ | ⟨n, g1, g2, _⟩
    · have hr : wEndS y = y.size := by unfold wEndS; rw [if_neg (by omega), h2, Int.toNat_natCast, ← hv, if_pos h]
      rw [hr]
      have HZ := Go.Lib.hid h
      have HV := Go.Lib.hid hv
      clear h hr h2 hv
      go_enter Try.func61, Try.ntmps61
      go_wp2_with fail
      refine (after_any b s k w hd hs hk).mono ?_
      rw [← HY.out]
      rintro e w1 ⟨rfl, b1⟩
      go_wp2_with fail
      refine (indexNot_any y 32 _ hxs).mono ?_
      rw [show fst y (isB 32 true) = (m : Int) from HM.out]
      rintro e w2 ⟨rfl, rfl⟩
      go_wp2_with fail
      rw [← HV.out]
      refine (strIndex_any v 32 _).mono ?_
      rw [show fst v (isB ((32 : UInt8).toNat : Nat) false) = -1 from HZ.out]
      rintro e w2 ⟨rfl, rfl⟩
      go_wp2_with fail
      go_returns
      exact ⟨rfl, b1⟩
    · have hvs : v.size ≤ y.size := by rw [hv, ByteArray.size_extract]; omega
      have hr : wEndS y = m + n := by unfold wEndS; rw [if_neg (by omega), h2, Int.toNat_natCast, ← hv, if_neg (by omega), g2]; rfl
      rw [hr]
      have HZ := Go.Lib.hid g2
      have HV := Go.Lib.hid hv
      have hn0 : ((n : Int) == -1) = false := by simp
      clear g2 hr h2 hv
      go_enter Try.func61, Try.ntmps61
      go_wp2_with fail
      refine (after_any b s k w hd hs hk).mono ?_
      rw [← HY.out]
      rintro e w1 ⟨rfl, b1⟩
      go_wp2_with fail
      refine (indexNot_any y 32 _ hxs).mono ?_
      rw [show fst y (isB 32 true) = (m : Int) from HM.out]
      rintro e w2 ⟨rfl, rfl⟩
      go_wp2_with fail
      rw [← HV.out]
      refine (strIndex_any v 32 _).mono ?_
      rw [show fst v (isB ((32 : UInt8).toNat : Nat) false) = (n : Int) from HZ.out]
      rintro e w2 ⟨rfl, rfl⟩
      go_wp2_with fail
      go_returns
      exact ⟨by first | rfl | (rw [Int.natCast_add]; rfl), b1⟩

theorem word_before (b : Nat) (s : ByteArray) (k : Nat) (w : World) (hd : DocAt w b s k) (hs : Small s) (hk : k ≤ s.size) :
    Calls Try.prog 39 #[.pointer (some ⟨b, 0, none⟩)] w fun e w' => e = .returned (.string ((s.extract 0 k).extract (wStart (s.extract 0 k)) (s.extract 0 k).size)) ∧ Below w.heap.size w w' := by
  have hxs : (s.extract 0 k).size ≤ 1000 := by rw [size_sub s _ _ (by omega)]; have := hs.2; omega
  have hle := wStart_le (s.extract 0 k)
  obtain ⟨x, hx⟩ : ∃ x, x = s.extract 0 k := ⟨_, rfl⟩
  rw [← hx] at hxs hle ⊢
  obtain ⟨n, hn⟩ : ∃ n, n = wStart x := ⟨_, rfl⟩
  rw [← hn] at hle ⊢
  have HX := Go.Lib.hid hx
  have HN := Go.Lib.hid hn
  have HD := Go.Lib.hid hd
  have hnx : (n : Int) ≤ x.size := by omega
  have hn0 : (0 : Int) ≤ n := by omega
  clear hx hn hd
  go_enter Try.func39, Try.ntmps39
  go_wp2_with fail
  refine (before_any b s k w HD.out hs hk).mono ?_
  rw [← HX.out]
  rintro e w1 ⟨rfl, b1⟩
  go_wp2_with fail
  refine (find_start_word b s k w1 (HD.out.below b1) hs hk).mono ?_
  rw [← HX.out, ← HN.out]
  rintro e w2 ⟨rfl, b2⟩
  have b12 := b1.trans (b2.mono b1.size)
  clear b1 b2
  go_wp2_with fail
  go_returns
  exact ⟨rfl, b12⟩

theorem word_before_spaced (b : Nat) (s : ByteArray) (k : Nat) (w : World) (hd : DocAt w b s k) (hs : Small s) (hk : k ≤ s.size) :
    Calls Try.prog 41 #[.pointer (some ⟨b, 0, none⟩)] w fun e w' => e = .returned (.string ((s.extract 0 k).extract (wStartS (s.extract 0 k)) (s.extract 0 k).size)) ∧ Below w.heap.size w w' := by
  have hxs : (s.extract 0 k).size ≤ 1000 := by rw [size_sub s _ _ (by omega)]; have := hs.2; omega
  have hle := wStartS_le (s.extract 0 k)
  obtain ⟨x, hx⟩ : ∃ x, x = s.extract 0 k := ⟨_, rfl⟩
  rw [← hx] at hxs hle ⊢
  obtain ⟨n, hn⟩ : ∃ n, n = wStartS x := ⟨_, rfl⟩
  rw [← hn] at hle ⊢
  have HX := Go.Lib.hid hx
  have HN := Go.Lib.hid hn
  have HD := Go.Lib.hid hd
  have hnx : (n : Int) ≤ x.size := by omega
  have hn0 : (0 : Int) ≤ n := by omega
  clear hx hn hd
  go_enter Try.func41, Try.ntmps41
  go_wp2_with fail
  refine (before_any b s k w HD.out hs hk).mono ?_
  rw [← HX.out]
  rintro e w1 ⟨rfl, b1⟩
  go_wp2_with fail
  refine (find_start_spaced b s k w1 (HD.out.below b1) hs hk).mono ?_
  rw [← HX.out, ← HN.out]
  rintro e w2 ⟨rfl, b2⟩
  have b12 := b1.trans (b2.mono b1.size)
  clear b1 b2
  go_wp2_with fail
  go_returns
  exact ⟨rfl, b12⟩

theorem word_after (b : Nat) (s : ByteArray) (k : Nat) (w : World) (hd : DocAt w b s k) (hs : Small s) (hk : k ≤ s.size) :
    Calls Try.prog 40 #[.pointer (some ⟨b, 0, none⟩)] w fun e w' => e = .returned (.string ((s.extract k s.size).extract 0 (wEnd (s.extract k s.size)))) ∧ Below w.heap.size w w' := by
  have hxs : (s.extract k s.size).size ≤ 1000 := by rw [size_sub s _ _ (by omega)]; have := hs.2; omega
  have hle := wEnd_le (s.extract k s.size)
  obtain ⟨x, hx⟩ : ∃ x, x = s.extract k s.size := ⟨_, rfl⟩
  rw [← hx] at hxs hle ⊢
  obtain ⟨n, hn⟩ : ∃ n, n = wEnd x := ⟨_, rfl⟩
  rw [← hn] at hle ⊢
  have HX := Go.Lib.hid hx
  have HN := Go.Lib.hid hn
  have HD := Go.Lib.hid hd
  have hnx : (n : Int) ≤ x.size := by omega
  have hn0 : (0 : Int) ≤ n := by omega
  clear hx hn hd
  go_enter Try.func40, Try.ntmps40
  go_wp2_with fail
  refine (after_any b s k w HD.out hs hk).mono ?_
  rw [← HX.out]
  rintro e w1 ⟨rfl, b1⟩
  go_wp2_with fail
  refine (find_end_word b s k w1 (HD.out.below b1) hs hk).mono ?_
  rw [← HX.out, ← HN.out]
  rintro e w2 ⟨rfl, b2⟩
  have b12 := b1.trans (b2.mono b1.size)
  clear b1 b2
  go_wp2_with fail
  go_returns
  exact ⟨rfl, b12⟩

theorem word_after_spaced (b : Nat) (s : ByteArray) (k : Nat) (w : World) (hd : DocAt w b s k) (hs : Small s) (hk : k ≤ s.size) :
    Calls Try.prog 42 #[.pointer (some ⟨b, 0, none⟩)] w fun e w' => e = .returned (.string ((s.extract k s.size).extract 0 (wEndS (s.extract k s.size)))) ∧ Below w.heap.size w w' := by
  have hxs : (s.extract k s.size).size ≤ 1000 := by rw [size_sub s _ _ (by omega)]; have := hs.2; omega
  have hle := wEndS_le (s.extract k s.size)
  obtain ⟨x, hx⟩ : ∃ x, x = s.extract k s.size := ⟨_, rfl⟩
  rw [← hx] at hxs hle ⊢
  obtain ⟨n, hn⟩ : ∃ n, n = wEndS x := ⟨_, rfl⟩
  rw [← hn] at hle ⊢
  have HX := Go.Lib.hid hx
  have HN := Go.Lib.hid hn
  have HD := Go.Lib.hid hd
  have hnx : (n : Int) ≤ x.size := by omega
  have hn0 : (0 : Int) ≤ n := by omega
  clear hx hn hd
  go_enter Try.func42, Try.ntmps42
  go_wp2_with fail
  refine (after_any b s k w HD.out hs hk).mono ?_
  rw [← HX.out]
  rintro e w1 ⟨rfl, b1⟩
  go_wp2_with fail
  refine (find_end_spaced b s k w1 (HD.out.below b1) hs hk).mono ?_
  rw [← HX.out, ← HN.out]
  rintro e w2 ⟨rfl, b2⟩
  have b12 := b1.trans (b2.mono b1.size)
  clear b1 b2
  go_wp2_with fail
  go_returns
  exact ⟨rfl, b12⟩
end Go.Proofs.Ytedjjimabchffaa
