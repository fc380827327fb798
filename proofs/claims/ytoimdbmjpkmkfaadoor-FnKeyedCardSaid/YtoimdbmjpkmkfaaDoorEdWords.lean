/- Words of an editor: IsWordSign, begins, before, after, cutWord. -/
import Derived.Test.YtoimdbmjpkmkfaaDoorEdTake
import Derived.Test.YtoimdbmjpkmkfaaDoorWordPl
namespace Go.Proofs.YtoimdbmjpkmkfaaDoor
open Go.RowKit
set_option linter.unusedVariables false
set_option linter.unusedSimpArgs false

theorem isword_any (c : Int) (w : World) : Calls Tryd.prog 47 #[.int .i32 c] w fun e w' => e = .returned (.bool (isW c)) ∧ w = w' := by
  obtain ⟨r, hr⟩ : ∃ r, r = isW c := ⟨_, rfl⟩
  rw [← hr]
  unfold isW at hr
  have HR := Go.Lib.hid hr
  clear hr
  by_cases a1 : 97 ≤ c
  · by_cases a2 : c ≤ 122
    · have h : r = true := by rw [HR.out]; simp; omega
      subst h
      go_enter Tryd.func47, Tryd.ntmps47
      go_wp2_with fail
      go_returns
      exact ⟨rfl, rfl⟩
    · have h : r = false := by rw [HR.out]; simp; omega
      subst h
      have d2 : decide (c ≤ 122) = false := by simpa using a2
      have d3 : decide (c ≤ 90) = false := by simp; omega
      have d4 : decide (c ≤ 57) = false := by simp; omega
      go_enter Tryd.func47, Tryd.ntmps47
      go_wp2_with fail
      go_returns
      exact ⟨rfl, rfl⟩
  · have d1 : decide (97 ≤ c) = false := by simpa using a1
    by_cases a3 : 65 ≤ c
    · by_cases a4 : c ≤ 90
      · have h : r = true := by rw [HR.out]; simp; omega
        subst h
        go_enter Tryd.func47, Tryd.ntmps47
        go_wp2_with fail
        go_returns
        exact ⟨rfl, rfl⟩
      · have h : r = false := by rw [HR.out]; simp; omega
        subst h
        have d3 : decide (c ≤ 90) = false := by simpa using a4
        have d4 : decide (c ≤ 57) = false := by simp; omega
        go_enter Tryd.func47, Tryd.ntmps47
        go_wp2_with fail
        go_returns
        exact ⟨rfl, rfl⟩
    · have d2 : decide (65 ≤ c) = false := by simpa using a3
      by_cases a5 : 48 ≤ c
      · by_cases a6 : c ≤ 57
        · have h : r = true := by rw [HR.out]; simp; omega
          subst h
          go_enter Tryd.func47, Tryd.ntmps47
          go_wp2_with fail
          go_returns
          exact ⟨rfl, rfl⟩
        · have h : r = false := by rw [HR.out]; simp; omega
          subst h
          have d4 : decide (c ≤ 57) = false := by simpa using a6
          go_enter Tryd.func47, Tryd.ntmps47
          go_wp2_with fail
          go_returns
          exact ⟨rfl, rfl⟩
      · have h : r = false := by rw [HR.out]; simp; omega
        subst h
        have d4 : decide (48 ≤ c) = false := by simpa using a5
        go_enter Tryd.func47, Tryd.ntmps47
        go_wp2_with fail
        go_returns
        exact ⟨rfl, rfl⟩

theorem nth_cell {w : World} {eb : Nat} {A : Option Addr} {l : List Int} (h : Rw w eb A l) (i : Nat) (hi : i < l.length) : ∃ b off, A = some ⟨b, off, none⟩ ∧ w.cell? ⟨b, off + i, none⟩ = some (.int .i32 (nth l i)) := by
  rcases h with rfl | ⟨b, off, rfl, _, _, hc⟩
  · simp at hi
  · exact ⟨b, off, rfl, hc i hi⟩

set_option maxHeartbeats 1000000 in
theorem begins_any (eb : Nat) (l : List Int) (k : Nat) (kept : List Int) (i : Nat) (w : World) (h : Ed w eb l k kept false false) (hl : l.length ≤ 100000) (hi : i ≤ 200000) :
    Calls Tryd.prog 27 #[.pointer (some ⟨eb, 0, none⟩), .int .i64 (i : Nat)] w fun e w' => e = .returned (.bool (begB l i)) ∧ w = w' := by
  obtain ⟨A, cap, B, cap2, hv⟩ := h
  have c0 := hv.c0
  have HR := Go.Lib.hid hv.r0
  clear hv
  obtain ⟨r, hr⟩ : ∃ r, r = begB l i := ⟨_, rfl⟩
  rw [← hr]
  unfold begB at hr
  have HB := Go.Lib.hid hr
  clear hr
  by_cases h0 : 0 < i
  · by_cases h1 : i < l.length
    · obtain ⟨m, hm⟩ : ∃ m, m = i - 1 := ⟨_, rfl⟩
      have hb := HB.out
      rw [show decide (0 < i ∧ i < l.length) = true by simp; omega, Bool.true_and, ← hm] at hb
      obtain ⟨b, off, rfl, ci⟩ := nth_cell HR.out i h1
      obtain ⟨b2, off2, hA, cm⟩ := nth_cell HR.out m (by omega)
      cases hA
      have hw : IntKind.i64.wrap ((i : Int) - 1) = (m : Nat) := by rw [IntWalk.i64_in _ (by omega)]; omega
      have HI := Go.Lib.hid (isword_any (nth l i) w)
      have HM := Go.Lib.hid (isword_any (nth l m) w)
      have H2 := Go.Lib.hid hb
      generalize nth l i = x at ci HI H2
      generalize nth l m = y at cm HM H2
      generalize isW x = p at HI H2
      generalize isW y = q at HM H2
      have hm1 : m < l.length := by omega
      have hi0 : (0 : Int) < i := by omega
      have hi1 : (i : Int) < l.length := by omega
      clear hb HB hm
      cases p
      · obtain rfl : r = false := H2.out
        go_enter Tryd.func27, Tryd.ntmps27
        go_wp2_with fail
        refine HI.out.mono ?_
        rintro e w1 ⟨rfl, rfl⟩
        go_wp2_with fail
        go_returns
        exact ⟨rfl, rfl⟩
      · cases q
        · obtain rfl : r = true := H2.out
          go_enter Tryd.func27, Tryd.ntmps27
          go_wp2_with fail
          refine HI.out.mono ?_
          rintro e w1 ⟨rfl, rfl⟩
          go_wp2_with fail
          refine HM.out.mono ?_
          rintro e w1 ⟨rfl, rfl⟩
          go_wp2_with fail
          go_returns
          exact ⟨rfl, rfl⟩
        · obtain rfl : r = false := H2.out
          go_enter Tryd.func27, Tryd.ntmps27
          go_wp2_with fail
          refine HI.out.mono ?_
          rintro e w1 ⟨rfl, rfl⟩
          go_wp2_with fail
          refine HM.out.mono ?_
          rintro e w1 ⟨rfl, rfl⟩
          go_wp2_with fail
          go_returns
          exact ⟨rfl, rfl⟩
    · obtain rfl : r = false := by rw [HB.out, show decide (0 < i ∧ i < l.length) = false by simp; omega, Bool.false_and]
      have hi1 : decide ((i : Int) < l.length) = false := by simp; omega
      go_enter Tryd.func27, Tryd.ntmps27
      go_wp2_with fail
      go_returns
      exact ⟨rfl, rfl⟩
  · obtain rfl : i = 0 := by omega
    obtain rfl : r = false := by rw [HB.out]; simp
    go_enter Tryd.func27, Tryd.ntmps27
    go_wp2_with fail
    go_returns
    exact ⟨rfl, rfl⟩

theorem before_any (eb : Nat) (l : List Int) (k : Nat) (kept : List Int) (i : Nat) (w : World) (h : Ed w eb l k kept false false) (hl : l.length ≤ 100000) (hi : i ≤ l.length) :
    Calls Tryd.prog 17 #[.pointer (some ⟨eb, 0, none⟩), .int .i64 (i : Nat)] w fun e w' => e = .returned (.int .i64 (befW l i)) ∧ w = w' := by
  have H := Go.Lib.hid h
  clear h
  go_enter Tryd.func17, Tryd.ntmps17
  go_wp2_with fail
  go_loop [5] (fun x => ∃ z : Int, x = .int .i64 z ∧ -1 ≤ z ∧ z < i ∧ Hid (befW l i = befW l (z + 1).toNat)) (fun x => (intOf x + 1).toNat)
  case atStart => exact ⟨(i : Int) - 1, rfl, by omega, by omega, by rw [Hid]; congr 1; omega⟩
  case round =>
    obtain ⟨z, rfl, hz1, hz2, HR⟩ := hrel
    by_cases hz : 0 ≤ z
    · obtain ⟨m, hm⟩ := Int.eq_ofNat_of_zero_le hz
      subst hm
      have hst : befW l (m + 1) = if begB l m then (m : Int) else befW l m := rfl
      have hR := HR.out
      rw [show ((m : Int) + 1).toNat = m + 1 by omega, hst] at hR
      have HC := Go.Lib.hid (begins_any eb l k kept m w H.out hl (by omega))
      generalize begB l m = p at HC hR
      have HR2 := Go.Lib.hid hR
      clear hst hR
      cases p
      · go_wp2_with fail
        refine HC.out.mono ?_
        rintro e w1 ⟨rfl, rfl⟩
        go_wp2_with fail
        go_round
        case rel => exact ⟨(m : Int) - 1, by go_num, by omega, by omega, by rw [Hid]; refine HR2.out.trans ?_; rw [if_neg (by decide)]; congr 1; omega⟩
        case measure => simp [intOf] <;> omega
      · go_wp2_with fail
        refine HC.out.mono ?_
        rintro e w1 ⟨rfl, rfl⟩
        go_wp2_with fail
        go_returns
        exact ⟨by rw [HR2.out]; rfl, rfl⟩
    · have hz' : decide (0 ≤ z) = false := by simpa using hz
      have HF : Hid (befW l i = -1) := by
        rw [Hid, HR.out, show (z + 1).toNat = 0 by omega]; rfl
      go_wp2_with fail
      go_returns
      exact ⟨by rw [HF.out]; rfl, rfl⟩

theorem after_any (eb : Nat) (l : List Int) (k : Nat) (kept : List Int) (i : Nat) (w : World) (h : Ed w eb l k kept false false) (hl : l.length ≤ 100000) (hi : i ≤ l.length) :
    Calls Tryd.prog 19 #[.pointer (some ⟨eb, 0, none⟩), .int .i64 (i : Nat)] w fun e w' => e = .returned (.int .i64 (aftW l (i + 1))) ∧ w = w' := by
  have H := Go.Lib.hid h
  obtain ⟨A, cap, B, cap2, hv⟩ := h
  have c0 := hv.c0
  clear hv
  go_enter Tryd.func19, Tryd.ntmps19
  go_wp2_with fail
  go_loop [5] (fun x => ∃ m : Nat, x = .int .i64 m ∧ i < m ∧ m ≤ l.length + 1 ∧ Hid (aftW l (i + 1) = aftW l m)) (fun x => l.length + 1 - (intOf x).toNat)
  case atStart => exact ⟨i + 1, by go_num, by omega, by omega, rfl⟩
  case round =>
    obtain ⟨m, rfl, hz1, hz2, HR⟩ := hrel
    by_cases hml : m < l.length
    · have hb1 : (m : Int) < l.length := by omega
      have hst := aftW_step l m hml
      have hR := HR.out
      rw [hst] at hR
      have HC := Go.Lib.hid (begins_any eb l k kept m w H.out hl (by omega))
      generalize begB l m = p at HC hR
      have HR2 := Go.Lib.hid hR
      clear hst hR
      cases p
      · go_wp2_with fail
        refine HC.out.mono ?_
        rintro e w1 ⟨rfl, rfl⟩
        go_wp2_with fail
        go_round
        case rel => exact ⟨m + 1, by go_num, by omega, by omega, HR2.out⟩
        case measure => simp [intOf] <;> omega
      · go_wp2_with fail
        refine HC.out.mono ?_
        rintro e w1 ⟨rfl, rfl⟩
        go_wp2_with fail
        go_returns
        exact ⟨by rw [HR2.out]; rfl, rfl⟩
    · have hz' : ¬ (m : Int) < l.length := by omega
      have HF : Hid (aftW l (i + 1) = -1) := HR.out.trans (aftW_end l m (by omega))
      go_wp2_with fail
      go_returns
      exact ⟨by rw [HF.out]; rfl, rfl⟩
end Go.Proofs.YtoimdbmjpkmkfaaDoor
