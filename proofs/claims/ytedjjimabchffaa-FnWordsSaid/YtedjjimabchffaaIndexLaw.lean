/- The walk of laws.FnIndex: the place of a row and a column. -/
import Derived.Test.YtedjjimabchffaaDocLines
import Derived.Test.YtedjjimabchffaaDocIndex
namespace Go.Proofs.Ytedjjimabchffaa
open Go.RowKit
set_option linter.unusedVariables false
set_option linter.unusedSimpArgs false

theorem count_ascii (s : ByteArray) (w : World) (ha : IsAscii s) (hs : s.size ≤ 1000) :
    Calls Try.prog 26 #[.string s] w fun e w' => e = .returned (.int .i64 (s.size : Nat)) ∧ Below w.heap.size w w' := by
  have hcv := fun w => run_runes (P := Try.prog) w 9 53 21 s Try.underlying9 Try.underlying53 Try.underlying21 (by omega)
  have hl := runes_ascii_length s ha
  rw [hl] at hcv
  clear ha hl
  go_enter Try.func26, Try.ntmps26
  go_wp2_with fail
  go_returns
  exact ⟨rfl, ((Below.refl _ _).alloc (Nat.le_refl _) _).drew⟩

set_option maxHeartbeats 1000000 in
theorem spec_index (s : ByteArray) (row : Int) (r c : Nat) (w : World) (ha : IsAscii s) (hs : s.size ≤ 1000) (hrow : (row < 0 ∧ -50 ≤ row ∧ r = 0) ∨ row = r) (hr : r < (lines s).length) (hc : c ≤ 2000) :
    Calls Try.prog 15 #[.string s, .int .i64 row, .int .i64 (c : Nat)] w fun e w' => e = .returned (.int .i64 (idxOf (lines s) r c : Nat)) ∧ Below w.heap.size w w' := by
  have hll := lines_len s
  have hla := lines_ascii s ha
  have hfit := line_fits s r hr
  rw [← ln_eq (lines s) r hr] at hfit
  have hlns : ∀ k, k < (lines s).length → startOf (lines s) k + (ln (lines s) k).size ≤ s.size := fun k hk => by
    have := line_fits s k hk
    rwa [← ln_eq (lines s) k hk] at this
  obtain ⟨ls, hls⟩ : ∃ ls, ls = lines s := ⟨_, rfl⟩
  obtain ⟨L, hL⟩ : ∃ L, L = ls.length := ⟨_, rfl⟩
  obtain ⟨T, hT⟩ : ∃ T, T = idxOf ls r c := ⟨_, rfl⟩
  rw [← hls] at hr hla hll hfit hlns ⊢
  obtain ⟨S, hS⟩ : ∃ S, S = startOf ls r := ⟨_, rfl⟩
  obtain ⟨n, hn⟩ : ∃ n, n = (ln ls r).size := ⟨_, rfl⟩
  have hTv : T = S + min c n := by rw [hT, hS, hn]; rfl
  rw [← hS, ← hn] at hfit
  rw [← hL] at hr hll hlns
  rw [← hT]
  have HLS := Go.Lib.hid hls
  have HL := Go.Lib.hid hL
  have HA := Go.Lib.hid hla
  have HLN := Go.Lib.hid hlns
  have HS : Hid (((startOf ls r : Nat) : Int) = S) := by rw [hS, Hid]
  have HSZ : Hid (((ln ls r).size : Int) = n) := by rw [hn, Hid]
  have HTV := Go.Lib.hid hTv
  clear hls hL hla ha hlns hS hn hT hTv
  have hrow' : (row < 0 ∧ -50 ≤ row ∧ r = 0) ∨ (row = 0 ∧ r = 0) ∨ (row = r ∧ (0 : Int) < r) := by
    rcases hrow with h | h
    · exact .inl h
    · by_cases e : r = 0
      · exact .inr (.inl ⟨by omega, e⟩)
      · exact .inr (.inr ⟨h, by omega⟩)
  clear hrow
  rcases hrow' with ⟨hneg, hneg2, rfl⟩ | ⟨rfl, rfl⟩ | ⟨rfl, hpos⟩
  · go_enter Try.func15, Try.ntmps15
    go_wp2_with fail
    refine (spec_lines s w hs).mono ?_
    rw [← HLS.out]
    rintro e w1 ⟨g, cap, rfl, hg, hS, b1⟩
    rw [← HL.out]
    have H1 := Go.Lib.hid hS
    clear hS
    go_wp2_with fail
    go_loopw [8, 9] (fun o i wr => ∃ k : Nat, k ≤ 0 ∧ i = .int .i64 k ∧ o = .int .i64 ((startOf ls k : Nat) : Int) ∧ Below w.heap.size w wr ∧ Hid (StrsAt wr g ls)) (fun _ i _ => 0 - (intOf i).toNat)
    case atStart => exact ⟨0, Nat.zero_le _, rfl, by rw [startOf_zero]; rfl, b1, H1⟩
    case round =>
      obtain ⟨k, hk, rfl, rfl, hb, HP⟩ := hrel
      by_cases hlt : k < 0
      · exact absurd hlt (by omega)
      · obtain rfl : k = 0 := by omega
        have hsr := HP.out.2 _ (by rw [← HL.out]; exact hr)
        have hl0 := HP.out.1
        have hsv := HS.out
        have hk0 : (0 : Int) < L := by omega
        go_wp2_with fail
        refine (count_ascii (ln ls 0) _ (HA.out _ (ln_mem ls _ (by rw [← HL.out]; exact hr))) (by have := HSZ.out; omega)).mono ?_
        rintro e w2 ⟨rfl, b2⟩
        have hb2 : Below w.heap.size w w2 := hb.trans (b2.mono hb.size)
        have hsz := HSZ.out
        by_cases x1 : (n : Int) < c
        · have HV : Hid ((S : Int) + n = T) := by have := HTV.out; rw [Hid]; omega
          by_cases x2 : (0 : Int) < n
          · go_wp2_with fail
            go_returns
            exact ⟨congrArg (fun x => Ending.returned (.int .i64 x)) HV.out, hb2⟩
          · have HV2 : Hid ((S : Int) = T) := by have := HV.out; rw [Hid]; omega
            go_wp2_with fail
            go_returns
            first | exact ⟨congrArg (fun x => Ending.returned (.int .i64 x)) HV2.out, hb2⟩ | exact ⟨congrArg (fun x => Ending.returned (.int .i64 x)) HV.out, hb2⟩
        · have HV : Hid ((S : Int) + c = T) := by have := HTV.out; rw [Hid]; omega
          by_cases x2 : (0 : Int) < c
          · go_wp2_with fail
            go_returns
            exact ⟨congrArg (fun x => Ending.returned (.int .i64 x)) HV.out, hb2⟩
          · have HV2 : Hid ((S : Int) = T) := by have := HV.out; rw [Hid]; omega
            go_wp2_with fail
            go_returns
            first | exact ⟨congrArg (fun x => Ending.returned (.int .i64 x)) HV2.out, hb2⟩ | exact ⟨congrArg (fun x => Ending.returned (.int .i64 x)) HV.out, hb2⟩
  · go_enter Try.func15, Try.ntmps15
    go_wp2_with fail
    refine (spec_lines s w hs).mono ?_
    rw [← HLS.out]
    rintro e w1 ⟨g, cap, rfl, hg, hS, b1⟩
    rw [← HL.out]
    have H1 := Go.Lib.hid hS
    clear hS
    go_wp2_with fail
    go_loopw [8, 9] (fun o i wr => ∃ k : Nat, k ≤ 0 ∧ i = .int .i64 k ∧ o = .int .i64 ((startOf ls k : Nat) : Int) ∧ Below w.heap.size w wr ∧ Hid (StrsAt wr g ls)) (fun _ i _ => 0 - (intOf i).toNat)
    case atStart => exact ⟨0, Nat.zero_le _, rfl, by rw [startOf_zero]; rfl, b1, H1⟩
    case round =>
      obtain ⟨k, hk, rfl, rfl, hb, HP⟩ := hrel
      by_cases hlt : k < 0
      · exact absurd hlt (by omega)
      · obtain rfl : k = 0 := by omega
        have hsr := HP.out.2 _ (by rw [← HL.out]; exact hr)
        have hl0 := HP.out.1
        have hsv := HS.out
        have hk0 : (0 : Int) < L := by omega
        go_wp2_with fail
        refine (count_ascii (ln ls 0) _ (HA.out _ (ln_mem ls _ (by rw [← HL.out]; exact hr))) (by have := HSZ.out; omega)).mono ?_
        rintro e w2 ⟨rfl, b2⟩
        have hb2 : Below w.heap.size w w2 := hb.trans (b2.mono hb.size)
        have hsz := HSZ.out
        by_cases x1 : (n : Int) < c
        · have HV : Hid ((S : Int) + n = T) := by have := HTV.out; rw [Hid]; omega
          by_cases x2 : (0 : Int) < n
          · go_wp2_with fail
            go_returns
            exact ⟨congrArg (fun x => Ending.returned (.int .i64 x)) HV.out, hb2⟩
          · have HV2 : Hid ((S : Int) = T) := by have := HV.out; rw [Hid]; omega
            go_wp2_with fail
            go_returns
            first | exact ⟨congrArg (fun x => Ending.returned (.int .i64 x)) HV2.out, hb2⟩ | exact ⟨congrArg (fun x => Ending.returned (.int .i64 x)) HV.out, hb2⟩
        · have HV : Hid ((S : Int) + c = T) := by have := HTV.out; rw [Hid]; omega
          by_cases x2 : (0 : Int) < c
          · go_wp2_with fail
            go_returns
            exact ⟨congrArg (fun x => Ending.returned (.int .i64 x)) HV.out, hb2⟩
          · have HV2 : Hid ((S : Int) = T) := by have := HV.out; rw [Hid]; omega
            go_wp2_with fail
            go_returns
            first | exact ⟨congrArg (fun x => Ending.returned (.int .i64 x)) HV2.out, hb2⟩ | exact ⟨congrArg (fun x => Ending.returned (.int .i64 x)) HV.out, hb2⟩
  · go_enter Try.func15, Try.ntmps15
    go_wp2_with fail
    refine (spec_lines s w hs).mono ?_
    rw [← HLS.out]
    rintro e w1 ⟨g, cap, rfl, hg, hS, b1⟩
    rw [← HL.out]
    have H1 := Go.Lib.hid hS
    clear hS
    go_wp2_with fail
    go_loopw [8, 9] (fun o i wr => ∃ k : Nat, k ≤ r ∧ i = .int .i64 k ∧ o = .int .i64 ((startOf ls k : Nat) : Int) ∧ Below w.heap.size w wr ∧ Hid (StrsAt wr g ls)) (fun _ i _ => r - (intOf i).toNat)
    case atStart => exact ⟨0, Nat.zero_le _, rfl, by rw [startOf_zero]; rfl, b1, H1⟩
    case round =>
      obtain ⟨k, hk, rfl, rfl, hb, HP⟩ := hrel
      by_cases hlt : k < r
      · have hc0 := HP.out.2 k (by rw [← HL.out]; omega)
        have hl0 := HP.out.1
        have hk0 : (k : Int) < L := by omega
        have hbd := HLN.out k (by omega)
        have HX := Go.Lib.hid (startOf_ln ls k (by rw [← HL.out]; omega))
        go_wp2_with fail
        refine (count_ascii (ln ls k) _ (HA.out _ (ln_mem ls k (by rw [← HL.out]; omega))) (by omega)).mono ?_
        rintro e w2 ⟨rfl, b2⟩
        have hb2 : Below w.heap.size w w2 := hb.trans (b2.mono hb.size)
        go_wp2_with fail
        go_roundw
        case rel => exact ⟨k + 1, by omega, by go_num, congrArg (Value.int .i64) (by have := HX.out; omega), hb2, HP.out.below b2⟩
        case measure => simp [intOf]; omega
      · obtain rfl : r = k := by omega
        have hsr := HP.out.2 _ (by rw [← HL.out]; exact hr)
        have hl0 := HP.out.1
        have hsv := HS.out
        have hk0 : (r : Int) < L := by omega
        go_wp2_with fail
        refine (count_ascii (ln ls r) _ (HA.out _ (ln_mem ls _ (by rw [← HL.out]; exact hr))) (by have := HSZ.out; omega)).mono ?_
        rintro e w2 ⟨rfl, b2⟩
        have hb2 : Below w.heap.size w w2 := hb.trans (b2.mono hb.size)
        have hsz := HSZ.out
        by_cases x1 : (n : Int) < c
        · have HV : Hid ((S : Int) + n = T) := by have := HTV.out; rw [Hid]; omega
          by_cases x2 : (0 : Int) < n
          · go_wp2_with fail
            go_returns
            exact ⟨congrArg (fun x => Ending.returned (.int .i64 x)) HV.out, hb2⟩
          · have HV2 : Hid ((S : Int) = T) := by have := HV.out; rw [Hid]; omega
            go_wp2_with fail
            go_returns
            first | exact ⟨congrArg (fun x => Ending.returned (.int .i64 x)) HV2.out, hb2⟩ | exact ⟨congrArg (fun x => Ending.returned (.int .i64 x)) HV.out, hb2⟩
        · have HV : Hid ((S : Int) + c = T) := by have := HTV.out; rw [Hid]; omega
          by_cases x2 : (0 : Int) < c
          · go_wp2_with fail
            go_returns
            exact ⟨congrArg (fun x => Ending.returned (.int .i64 x)) HV.out, hb2⟩
          · have HV2 : Hid ((S : Int) = T) := by have := HV.out; rw [Hid]; omega
            go_wp2_with fail
            go_returns
            first | exact ⟨congrArg (fun x => Ending.returned (.int .i64 x)) HV2.out, hb2⟩ | exact ⟨congrArg (fun x => Ending.returned (.int .i64 x)) HV.out, hb2⟩

namespace fnIndex
set_option maxHeartbeats 1000000 in
theorem walk (s : ByteArray) (row col : Int) (w : World) (hs : s.size ≤ maxLen) (hrw : (Lit.int .i64 row).wf = true) (hcw : (Lit.int .i64 col).wf = true) :
    Calls Try.prog 4 #[.string s, .int .i64 row, .int .i64 col] w fun e w' => e = .returned (.bool true) ∧ Below w.heap.size w w' := by
  unfold maxLen at hs
  clear hrw hcw
  by_cases h1 : 2147483647 < (s.size : Int)
  · go_enter Try.func4, Try.ntmps4
    go_wp2_with fail
    go_returns
    exact ⟨rfl, Below.refl _ _⟩
  by_cases h2 : Small s
  · have H2 := Go.Lib.hid h2
    have hsz := h2.2
    clear h2
    by_cases h3 : row < -50
    · go_enter Try.func4, Try.ntmps4
      go_wp2_with fail
      refine (ascii_yes s _ H2.out).mono ?_
      rintro e w1 ⟨rfl, rfl⟩
      go_wp2_with fail
      go_returns
      exact ⟨rfl, Below.refl _ _⟩
    obtain ⟨L, hL⟩ : ∃ L, L = (lines s).length := ⟨_, rfl⟩
    have HL := Go.Lib.hid hL
    clear hL
    have hlo : 1 ≤ L := by rw [HL.out]; have := List.length_pos_iff.2 (lines_ne s); omega
    have hhi : L ≤ 1001 := by rw [HL.out]; have := lines_len s; omega
    by_cases h4 : (L : Int) ≤ row
    · go_enter Try.func4, Try.ntmps4
      go_wp2_with fail
      refine (ascii_yes s _ H2.out).mono ?_
      rintro e w1 ⟨rfl, rfl⟩
      go_wp2_with fail
      refine (spec_lines s _ hsz).mono ?_
      rintro e w1 ⟨g, cap, rfl, hg, hS, b1⟩
      rw [← HL.out]
      clear hS
      go_wp2_with fail
      go_returns
      exact ⟨rfl, b1⟩
    by_cases h5 : col < 0
    · go_enter Try.func4, Try.ntmps4
      go_wp2_with fail
      refine (ascii_yes s _ H2.out).mono ?_
      rintro e w1 ⟨rfl, rfl⟩
      go_wp2_with fail
      refine (spec_lines s _ hsz).mono ?_
      rintro e w1 ⟨g, cap, rfl, hg, hS, b1⟩
      rw [← HL.out]
      clear hS
      go_wp2_with fail
      go_returns
      exact ⟨rfl, b1⟩
    by_cases h6 : 2000 < col
    · go_enter Try.func4, Try.ntmps4
      go_wp2_with fail
      refine (ascii_yes s _ H2.out).mono ?_
      rintro e w1 ⟨rfl, rfl⟩
      go_wp2_with fail
      refine (spec_lines s _ hsz).mono ?_
      rintro e w1 ⟨g, cap, rfl, hg, hS, b1⟩
      rw [← HL.out]
      clear hS
      go_wp2_with fail
      go_returns
      exact ⟨rfl, b1⟩
    obtain ⟨c, rfl⟩ := Int.eq_ofNat_of_zero_le (show 0 ≤ col by omega)
    have hrow : ∃ r : Nat, ((row < 0 ∧ -50 ≤ row ∧ r = 0) ∨ row = r) ∧ r < L := by
      by_cases e : row < 0
      · exact ⟨0, .inl ⟨e, by omega, rfl⟩, by omega⟩
      · exact ⟨row.toNat, .inr (by omega), by omega⟩
    obtain ⟨r, hr1, hr2⟩ := hrow
    have HR1 := Go.Lib.hid hr1
    have HR2 : Hid (r < (lines s).length) := by rw [Hid, ← HL.out]; exact hr2
    clear hr1 hr2
    obtain ⟨T, hT⟩ : ∃ T, T = idxOf (lines s) r c := ⟨_, rfl⟩
    have HT := Go.Lib.hid hT
    clear hT
    go_enter Try.func4, Try.ntmps4
    go_wp2_with fail
    refine (ascii_yes s _ H2.out).mono ?_
    rintro e w1 ⟨rfl, rfl⟩
    go_wp2_with fail
    refine (spec_lines s _ hsz).mono ?_
    rintro e w1 ⟨g, cap, rfl, hg, hS, b1⟩
    rw [← HL.out]
    clear hS
    go_wp2_with fail
    refine (index_any' s row r c _ hsz HR1.out HR2.out (by omega)).mono ?_
    rw [← HT.out]
    rintro e w2 ⟨rfl, b2⟩
    have b12 := b1.trans (b2.mono b1.size)
    clear b1 b2
    go_wp2_with fail
    refine (spec_index s row r c _ H2.out.1 hsz HR1.out HR2.out (by omega)).mono ?_
    rw [← HT.out]
    rintro e w3 ⟨rfl, b3⟩
    have b13 := b12.trans (b3.mono b12.size)
    clear b12 b3
    go_wp2_with fail
    go_returns
    exact ⟨rfl, b13⟩
  · have H2 := Go.Lib.hid h2
    clear h2
    go_enter Try.func4, Try.ntmps4
    go_wp2_with fail
    refine (ascii_no s _ hs H2.out).mono ?_
    rintro e w1 ⟨rfl, rfl⟩
    go_wp2_with fail
    go_returns
    exact ⟨rfl, Below.refl _ _⟩
end fnIndex
end Go.Proofs.Ytedjjimabchffaa
