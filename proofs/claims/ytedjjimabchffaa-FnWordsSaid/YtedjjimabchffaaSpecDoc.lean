/- The reference's texts, lines and words around a cursor: spec.Before, After, LineBefore, LineAfter, Row, Column, Start, End. -/
import Derived.Test.YtedjjimabchffaaDocAround
import Derived.Test.YtedjjimabchffaaIndexLaw
namespace Go.Proofs.Ytedjjimabchffaa
open Go.RowKit
set_option linter.unusedVariables false
set_option linter.unusedSimpArgs false

theorem spec_before (s : ByteArray) (k : Nat) (w : World) (hs : Small s) (hk : k ≤ s.size) :
    Calls Try.prog 43 #[.agg #[.string s, .int .i64 (k : Nat)]] w fun e w' => e = .returned (.string (s.extract 0 k)) ∧ Below w.heap.size w w' := by
  obtain ⟨ha, hsz⟩ := hs
  have hcv := fun w => run_runes (P := Try.prog) w 9 53 21 s Try.underlying9 Try.underlying53 Try.underlying21 (by omega)
  have hl := runes_ascii_length s ha
  obtain ⟨W, hW⟩ : ∃ W, W = w.alloc (.cells #[.string s, .int .i64 (k : Nat)] 23) := ⟨_, rfl⟩
  have hWs : W.heap.size = w.heap.size + 1 := by rw [hW]; simp
  have hcap := runeCap_ge W 21 s
  have hrow : ∀ j, j < s.size → (runeCells s (runeCap W 21 s))[j]? = some (.int .i32 (nth (runes s) j)) := fun j hj => runeCells_at s _ j (by omega)
  rw [hl] at hcv hcap
  obtain ⟨cap, hcp⟩ : ∃ cap, cap = runeCap W 21 s := ⟨_, rfl⟩
  have hcv0 := hcv W
  rw [← hcp] at hcv0 hcap hrow
  have hconv : (convert 53 9 (.slice (some ⟨w.heap.size + 1, 0, none⟩) k cap)).run Try.prog (W.alloc (.cells (runeCells s cap) 21)).drew = .ok (.string (s.extract 0 k)) (W.alloc (.cells (runeCells s cap) 21)).drew := by
    have := conv_sub (W.alloc (.cells (runeCells s cap) 21)).drew W.heap.size 0 k cap s ha (by omega) (fun j _ h2 => by simp [hrow j (by omega)])
    rw [hWs] at this
    simpa using this
  rw [hWs] at hcv0
  have hk0 : (0 : Int) ≤ k := by omega
  have hk1 : (k : Int) ≤ cap := by omega
  rw [hW] at hconv hcv0
  clear hcv hl hrow ha hcp hWs hW
  go_enter Try.func43, Try.ntmps43
  go_wp2_with fail
  go_returns
  exact ⟨rfl, (((Below.refl _ _).alloc (Nat.le_refl _) _).alloc (by simp) _).drew⟩

theorem spec_after (s : ByteArray) (k : Nat) (w : World) (hs : Small s) (hk : k ≤ s.size) :
    Calls Try.prog 44 #[.agg #[.string s, .int .i64 (k : Nat)]] w fun e w' => e = .returned (.string (s.extract k s.size)) ∧ Below w.heap.size w w' := by
  obtain ⟨ha, hsz⟩ := hs
  have hcv := fun w => run_runes (P := Try.prog) w 9 53 21 s Try.underlying9 Try.underlying53 Try.underlying21 (by omega)
  have hl := runes_ascii_length s ha
  obtain ⟨W, hW⟩ : ∃ W, W = w.alloc (.cells #[.string s, .int .i64 (k : Nat)] 23) := ⟨_, rfl⟩
  have hWs : W.heap.size = w.heap.size + 1 := by rw [hW]; simp
  have hcap := runeCap_ge W 21 s
  have hrow : ∀ j, j < s.size → (runeCells s (runeCap W 21 s))[j]? = some (.int .i32 (nth (runes s) j)) := fun j hj => runeCells_at s _ j (by omega)
  rw [hl] at hcv hcap
  obtain ⟨cap, hcp⟩ : ∃ cap, cap = runeCap W 21 s := ⟨_, rfl⟩
  have hcv0 := hcv W
  rw [← hcp] at hcv0 hcap hrow
  rw [hWs] at hcv0
  obtain ⟨A, hA, hA2⟩ := run_cut (P := Try.prog) 53 21 Try.underlying53 sizeI32 (w.heap.size + 1) 0 s.size cap k k rfl hk hcap
  have hconv : (convert 53 9 (.slice A (s.size - k) (cap - k))).run Try.prog (W.alloc (.cells (runeCells s cap) 21)).drew = .ok (.string (s.extract k s.size)) (W.alloc (.cells (runeCells s cap) 21)).drew :=
    conv_tail _ A (w.heap.size + 1) k cap s ha hk hcap hA2 (fun j hj => by rw [← hWs]; simp [hrow j hj]) _
  rw [hW] at hconv hcv0
  clear hcv hl hrow ha hcp hA2 hWs hW
  go_enter Try.func44, Try.ntmps44
  go_wp2_with fail
  go_returns
  exact ⟨rfl, (((Below.refl _ _).alloc (Nat.le_refl _) _).alloc (by simp) _).drew⟩

/-- What the reference calls the line ahead of the cursor, and behind it. -/
def sLineB (x : ByteArray) : ByteArray := x.extract (lst x isNl + 1).toNat x.size
def sLineA (y : ByteArray) : ByteArray := if fst y isNl = -1 then y else y.extract 0 (fst y isNl).toNat
theorem sLineB_le (x : ByteArray) : (sLineB x).size ≤ x.size := by unfold sLineB; rw [ByteArray.size_extract]; omega
theorem sLineA_le (y : ByteArray) : (sLineA y).size ≤ y.size := by unfold sLineA; split
                                                                   · omega
                                                                   · rw [ByteArray.size_extract]; omega
theorem sLineB_ascii {x : ByteArray} (h : IsAscii x) : IsAscii (sLineB x) := h.extract _ _
theorem sLineA_ascii {y : ByteArray} (h : IsAscii y) : IsAscii (sLineA y) := by unfold sLineA; split
                                                                                · exact h
                                                                                · exact h.extract _ _

theorem spec_line_before (s : ByteArray) (k : Nat) (w : World) (hs : Small s) (hk : k ≤ s.size) :
    Calls Try.prog 45 #[.agg #[.string s, .int .i64 (k : Nat)]] w fun e w' => e = .returned (.string (sLineB (s.extract 0 k))) ∧ Below w.heap.size w w' := by
  have hxs : (s.extract 0 k).size ≤ 1000 := by rw [size_sub s _ _ (by omega)]; have := hs.2; omega
  obtain ⟨x, hx⟩ : ∃ x, x = s.extract 0 k := ⟨_, rfl⟩
  rw [← hx] at hxs ⊢
  have HX := Go.Lib.hid hx
  clear hx
  obtain ⟨z, hz⟩ : ∃ z, z = lst x isNl := ⟨_, rfl⟩
  obtain ⟨r, hr⟩ : ∃ r, r = (z + 1).toNat := ⟨_, rfl⟩
  have hc := lst_cast x isNl
  rw [← hz, ← hr] at hc
  obtain ⟨hc1, hc2⟩ := hc
  have hzr : z + 1 = (r : Int) := hc1.symm
  have hr0 : (0 : Int) ≤ r := by omega
  have hr1 : (r : Int) ≤ x.size := by omega
  have hzb : -1 ≤ z ∧ z ≤ 1000 := by omega
  obtain ⟨hzb1, hzb2⟩ := hzb
  have HV : Hid (sLineB x = x.extract r x.size) := by unfold sLineB; rw [← hz, ← hr]; rfl
  have HZ := Go.Lib.hid hz
  clear hz hr hc1
  go_enter Try.func45, Try.ntmps45
  go_wp2_with fail
  refine (spec_before s k _ hs hk).mono ?_
  rw [← HX.out]
  rintro e w1 ⟨rfl, b1⟩
  have b1' : Below w.heap.size w w1 := ((Below.refl _ _).alloc (Nat.le_refl _) _).trans (b1.mono (by simp))
  clear b1
  go_wp2_with fail
  refine (last_any x ⟨#[10]⟩ 10 false _ hxs rfl (by decide)).mono ?_
  rw [isB_nl, ← HZ.out]
  rintro e w2 ⟨rfl, rfl⟩
  go_wp2_with fail
  go_returns
  exact ⟨by rw [HV.out]; rfl, b1'⟩

theorem spec_line_after (s : ByteArray) (k : Nat) (w : World) (hs : Small s) (hk : k ≤ s.size) :
    Calls Try.prog 46 #[.agg #[.string s, .int .i64 (k : Nat)]] w fun e w' => e = .returned (.string (sLineA (s.extract k s.size))) ∧ Below w.heap.size w w' := by
  have hxs : (s.extract k s.size).size ≤ 1000 := by rw [size_sub s _ _ (by omega)]; have := hs.2; omega
  obtain ⟨x, hx⟩ : ∃ x, x = s.extract k s.size := ⟨_, rfl⟩
  rw [← hx] at hxs ⊢
  have HX := Go.Lib.hid hx
  clear hx
  rcases fst_spec x isNl with ⟨h, _⟩ | ⟨m, h1, h2, _⟩
  · have HV : Hid (sLineA x = x) := by unfold sLineA; rw [if_pos h]; rfl
    have HZ := Go.Lib.hid h
    clear h
    go_enter Try.func46, Try.ntmps46
    go_wp2_with fail
    refine (spec_after s k _ hs hk).mono ?_
    rw [← HX.out]
    rintro e w1 ⟨rfl, b1⟩
    have b1' : Below w.heap.size w w1 := ((Below.refl _ _).alloc (Nat.le_refl _) _).trans (b1.mono (by simp))
    clear b1
    go_wp2_with fail
    refine (first_none x _ hxs HZ.out).mono ?_
    rintro e w2 ⟨rfl, rfl⟩
    go_wp2_with fail
    go_returns
    exact ⟨by rw [HV.out]; rfl, b1'⟩
  · have HV : Hid (sLineA x = x.extract 0 m) := by unfold sLineA; rw [if_neg (by omega), h2]; rfl
    have HZ := Go.Lib.hid h2
    have hm1 : (m : Int) ≤ x.size := by omega
    clear h2
    go_enter Try.func46, Try.ntmps46
    go_wp2_with fail
    refine (spec_after s k _ hs hk).mono ?_
    rw [← HX.out]
    rintro e w1 ⟨rfl, b1⟩
    have b1' : Below w.heap.size w w1 := ((Below.refl _ _).alloc (Nat.le_refl _) _).trans (b1.mono (by simp))
    clear b1
    go_wp2_with fail
    refine (first_some x m _ hxs HZ.out).mono ?_
    rintro e w2 ⟨rfl, rfl⟩
    go_wp2_with fail
    go_returns
    exact ⟨by rw [HV.out]; rfl, b1'⟩

theorem spec_row (s : ByteArray) (k : Nat) (w : World) (hs : Small s) (hk : k ≤ s.size) :
    Calls Try.prog 47 #[.agg #[.string s, .int .i64 (k : Nat)]] w fun e w' => e = .returned (.int .i64 (((lines (s.extract 0 k)).length : Int) - 1)) ∧ Below w.heap.size w w' := by
  have hxs : (s.extract 0 k).size ≤ 1000 := by rw [size_sub s _ _ (by omega)]; have := hs.2; omega
  obtain ⟨x, hx⟩ : ∃ x, x = s.extract 0 k := ⟨_, rfl⟩
  rw [← hx] at hxs ⊢
  have HX := Go.Lib.hid hx
  clear hx
  have hl := lines_len x
  have hp := lines_pos x
  obtain ⟨L, hL⟩ : ∃ L, L = (lines x).length := ⟨_, rfl⟩
  rw [← hL] at hl hp ⊢
  have HL := Go.Lib.hid hL
  clear hL
  go_enter Try.func47, Try.ntmps47
  go_wp2_with fail
  refine (spec_before s k _ hs hk).mono ?_
  rw [← HX.out]
  rintro e w1 ⟨rfl, b1⟩
  have b1' : Below w.heap.size w w1 := ((Below.refl _ _).alloc (Nat.le_refl _) _).trans (b1.mono (by simp))
  clear b1
  go_wp2_with fail
  refine (spec_lines x w1 hxs).mono ?_
  rintro e w2 ⟨g, cap, rfl, _, _, b2⟩
  rw [← HL.out]
  have b2' := b1'.trans (b2.mono b1'.size)
  clear b1' b2
  go_wp2_with fail
  go_returns
  exact ⟨rfl, b2'⟩

theorem spec_col (s : ByteArray) (k : Nat) (w : World) (hs : Small s) (hk : k ≤ s.size) :
    Calls Try.prog 48 #[.agg #[.string s, .int .i64 (k : Nat)]] w fun e w' => e = .returned (.int .i64 ((sLineB (s.extract 0 k)).size : Nat)) ∧ Below w.heap.size w w' := by
  have hxs : (s.extract 0 k).size ≤ 1000 := by rw [size_sub s _ _ (by omega)]; have := hs.2; omega
  have hle := sLineB_le (s.extract 0 k)
  have hla := sLineB_ascii (hs.1.extract 0 k)
  obtain ⟨x, hx⟩ : ∃ x, x = sLineB (s.extract 0 k) := ⟨_, rfl⟩
  rw [← hx] at hle hla ⊢
  have HX := Go.Lib.hid hx
  have HA := Go.Lib.hid hla
  clear hx hla
  go_enter Try.func48, Try.ntmps48
  go_wp2_with fail
  refine (spec_line_before s k _ hs hk).mono ?_
  rw [← HX.out]
  rintro e w1 ⟨rfl, b1⟩
  have b1' : Below w.heap.size w w1 := ((Below.refl _ _).alloc (Nat.le_refl _) _).trans (b1.mono (by simp))
  clear b1
  go_wp2_with fail
  refine (count_ascii x w1 HA.out (by omega)).mono ?_
  rintro e w2 ⟨rfl, b2⟩
  have b2' := b1'.trans (b2.mono b1'.size)
  clear b1' b2
  go_wp2_with fail
  go_returns
  exact ⟨rfl, b2'⟩

theorem spec_start (x : ByteArray) (w : World) (hx : x.size ≤ 1000) :
    Calls Try.prog 49 #[.string x, .string ⟨#[32]⟩, .bool false] w fun e w' => e = .returned (.int .i64 (wStart x : Nat)) ∧ w = w' := by
  obtain ⟨z, hz⟩ : ∃ z, z = lst x sp := ⟨_, rfl⟩
  obtain ⟨r, hr⟩ : ∃ r, r = wStart x := ⟨_, rfl⟩
  have hc := lst_cast x sp
  rw [show (lst x sp + 1).toNat = r from hr.symm, ← hz] at hc
  obtain ⟨hc1, hc2⟩ := hc
  have hzb : -1 ≤ z ∧ z ≤ 1000 := by omega
  obtain ⟨hzb1, hzb2⟩ := hzb
  have HC := Go.Lib.hid hc1
  have HZ := Go.Lib.hid hz
  have HE := Go.Lib.hid (extract_all x)
  rw [← hr]
  clear hz hr hc1
  go_enter Try.func49, Try.ntmps49
  go_wp2_with fail
  first | rw [HE.out] | skip
  refine (last_any x ⟨#[32]⟩ 32 false _ hx rfl (by decide)).mono ?_
  rw [show lst x (isB 32 false) = z from HZ.out.symm]
  rintro e w2 ⟨rfl, rfl⟩
  go_wp2_with fail
  go_returns
  exact ⟨by rw [HC.out]; rfl, rfl⟩

theorem spec_start_spaced (x : ByteArray) (w : World) (hx : x.size ≤ 1000) :
    Calls Try.prog 49 #[.string x, .string ⟨#[32]⟩, .bool true] w fun e w' => e = .returned (.int .i64 (wStartS x : Nat)) ∧ w = w' := by
  rcases lstB_spec x nsp x.size with ⟨h, _⟩ | ⟨m, h1, h2, _⟩
  · have h : lst x nsp = -1 := h
    have hr : wStartS x = 0 := by unfold wStartS; rw [if_pos h]
    rw [hr]
    have HZ := Go.Lib.hid h
    clear h hr
    go_enter Try.func49, Try.ntmps49
    go_wp2_with fail
    refine (last_any x ⟨#[32]⟩ 32 true _ hx rfl (by decide)).mono ?_
    rw [show lst x (isB 32 true) = -1 from HZ.out]
    rintro e w2 ⟨rfl, rfl⟩
    go_wp2_with fail
    go_returns
    exact ⟨rfl, rfl⟩
  · have hl : lst x nsp = (m : Int) := h2
    have hr : wStartS x = wStart (x.extract 0 m) := by unfold wStartS; rw [if_neg (by omega), hl]; rfl
    rw [hr]
    have hys : (x.extract 0 m).size ≤ 1000 := by rw [size_sub x 0 m (by omega)]; omega
    have hmx : (m : Int) ≤ x.size := by omega
    obtain ⟨y, hy⟩ : ∃ y, y = x.extract 0 m := ⟨_, rfl⟩
    obtain ⟨z, hz⟩ : ∃ z, z = lst y sp := ⟨_, rfl⟩
    obtain ⟨r, hr0⟩ : ∃ r, r = wStart y := ⟨_, rfl⟩
    rw [← hy] at hys ⊢
    have hc := lst_cast y sp
    rw [show (lst y sp + 1).toNat = r from hr0.symm, ← hz] at hc
    obtain ⟨hc1, hc2⟩ := hc
    have hzb : -1 ≤ z ∧ z ≤ 1000 := by omega
    obtain ⟨hzb1, hzb2⟩ := hzb
    rw [← hr0]
    have HC := Go.Lib.hid hc1
    have HY := Go.Lib.hid hy
    have HZ := Go.Lib.hid hz
    have HM := Go.Lib.hid hl
    clear h2 hr hy hz hr0 hl hc1
    go_enter Try.func49, Try.ntmps49
    go_wp2_with fail
    refine (last_any x ⟨#[32]⟩ 32 true _ hx rfl (by decide)).mono ?_
    rw [show lst x (isB 32 true) = (m : Int) from HM.out]
    rintro e w2 ⟨rfl, rfl⟩
    go_wp2_with fail
    rw [← HY.out]
    refine (last_any y ⟨#[32]⟩ 32 false _ hys rfl (by decide)).mono ?_
    rw [show lst y (isB 32 false) = z from HZ.out.symm]
    rintro e w2 ⟨rfl, rfl⟩
    go_wp2_with fail
    go_returns
    exact ⟨by rw [HC.out]; rfl, rfl⟩

theorem spec_end (y : ByteArray) (w : World) (hx : y.size ≤ 1000) :
    Calls Try.prog 50 #[.string y, .string ⟨#[32]⟩, .bool false] w fun e w' => e = .returned (.int .i64 (wEnd y : Nat)) ∧ w = w' := by
  have HE := Go.Lib.hid (extract_all y)
  rcases fst_spec y sp with ⟨h, _⟩ | ⟨m, h1, h2, _⟩
  · have hr : wEnd y = y.size := by unfold wEnd; rw [if_pos h]
    rw [hr]
    have HZ := Go.Lib.hid h
    clear h hr
    go_enter Try.func50, Try.ntmps50
    go_wp2_with fail
    first | rw [HE.out] | skip
    refine (first_any y ⟨#[32]⟩ 32 false _ hx rfl (by decide)).mono ?_
    rw [show fst y (isB 32 false) = -1 from HZ.out]
    rintro e w2 ⟨rfl, rfl⟩
    go_wp2_with fail
    go_returns
    exact ⟨rfl, rfl⟩
  · have hr : wEnd y = m := by unfold wEnd; rw [if_neg (by omega), h2]; rfl
    rw [hr]
    have HZ := Go.Lib.hid h2
    clear h2 hr
    go_enter Try.func50, Try.ntmps50
    go_wp2_with fail
    first | rw [HE.out] | skip
    refine (first_any y ⟨#[32]⟩ 32 false _ hx rfl (by decide)).mono ?_
    rw [show fst y (isB 32 false) = (m : Int) from HZ.out]
    rintro e w2 ⟨rfl, rfl⟩
    go_wp2_with fail
    go_returns
    exact ⟨rfl, rfl⟩

theorem spec_end_spaced (y : ByteArray) (w : World) (hx : y.size ≤ 1000) :
    Calls Try.prog 50 #[.string y, .string ⟨#[32]⟩, .bool true] w fun e w' => e = .returned (.int .i64 (wEndS y : Nat)) ∧ w = w' := by
  rcases fst_spec y nsp with ⟨h, _⟩ | ⟨m, h1, h2, _⟩
  · have hr : wEndS y = y.size := by unfold wEndS; rw [if_pos h]
    rw [hr]
    have HZ := Go.Lib.hid h
    clear h hr
    go_enter Try.func50, Try.ntmps50
    go_wp2_with fail
    refine (first_any y ⟨#[32]⟩ 32 true _ hx rfl (by decide)).mono ?_
    rw [show fst y (isB 32 true) = -1 from HZ.out]
    rintro e w2 ⟨rfl, rfl⟩
    go_wp2_with fail
    go_returns
    exact ⟨rfl, rfl⟩
  · have hmx : (m : Int) ≤ y.size := by omega
    have HM := Go.Lib.hid h2
    obtain ⟨v, hv⟩ : ∃ v, v = y.extract m y.size := ⟨_, rfl⟩
    have hvs : v.size ≤ y.size := by rw [hv, ByteArray.size_extract]; omega
    rcases fst_spec v sp with ⟨h, _⟩ | ⟨n, g1, g2, _⟩
    · have hr : wEndS y = y.size := by unfold wEndS; rw [if_neg (by omega), h2, Int.toNat_natCast, ← hv, if_pos h]
      rw [hr]
      have HZ := Go.Lib.hid h
      have HV := Go.Lib.hid hv
      clear h hr h2 hv
      go_enter Try.func50, Try.ntmps50
      go_wp2_with fail
      refine (first_any y ⟨#[32]⟩ 32 true _ hx rfl (by decide)).mono ?_
      rw [show fst y (isB 32 true) = (m : Int) from HM.out]
      rintro e w2 ⟨rfl, rfl⟩
      go_wp2_with fail
      rw [← HV.out]
      refine (first_any v ⟨#[32]⟩ 32 false _ (by omega) rfl (by decide)).mono ?_
      rw [show fst v (isB 32 false) = -1 from HZ.out]
      rintro e w2 ⟨rfl, rfl⟩
      go_wp2_with fail
      go_returns
      exact ⟨rfl, rfl⟩
    · have hr : wEndS y = m + n := by unfold wEndS; rw [if_neg (by omega), h2, Int.toNat_natCast, ← hv, if_neg (by omega), g2]; rfl
      rw [hr]
      have HZ := Go.Lib.hid g2
      have HV := Go.Lib.hid hv
      clear g2 hr h2 hv
      go_enter Try.func50, Try.ntmps50
      go_wp2_with fail
      refine (first_any y ⟨#[32]⟩ 32 true _ hx rfl (by decide)).mono ?_
      rw [show fst y (isB 32 true) = (m : Int) from HM.out]
      rintro e w2 ⟨rfl, rfl⟩
      go_wp2_with fail
      rw [← HV.out]
      refine (first_any v ⟨#[32]⟩ 32 false _ (by omega) rfl (by decide)).mono ?_
      rw [show fst v (isB 32 false) = (n : Int) from HZ.out]
      rintro e w2 ⟨rfl, rfl⟩
      go_wp2_with fail
      go_returns
      exact ⟨by first | rfl | (rw [Int.natCast_add]; rfl), rfl⟩
end Go.Proofs.Ytedjjimabchffaa
