/- laws.FnDedentedBack. -/
import Derived.Test.YtbibokkclejapaaDoorIndDedS
import Derived.Test.YtbibokkclejapaaDoorIndSumLaw
namespace Go.Proofs.YtbibokkclejapaaDoor
open Go.RowKit
set_option linter.unusedVariables false
set_option linter.unusedSimpArgs false

theorem ind_ge (n : Nat) : ∀ (l : List UInt8) (sk : Bool), l.length ≤ (ind n sk l).length
  | [], sk => by simp [ind]
  | c :: t, sk => by
    have := ind_ge n t (c != 10)
    rw [ind, List.length_append, List.length_cons, List.length_cons]
    omega
theorem dedL_eq (t : List UInt8) (hok : OkR (rowsL t)) (hm : (rowsL t).foldl lst 0 ≠ 0) : dedL t = togL ((rowsL t).map (cutL ((rowsL t).foldl lst 0))) := by
  have hc : ∀ x ∈ rowsL t, ∀ c ∈ x, c ≠ 10 := fun x hx c hc => (rows_clean t x hx c hc).1
  have h1 := m_rows (rowsL t) 0 (rows_ne t) hc
  have h2 := d_rows ((rowsL t).foldl lst 0) (rowsL t) [] (rows_ne t) hc (lst_le (rowsL t) 0 hok).1
  rw [tog_rows] at h1 h2
  unfold dedL
  rw [h1, if_neg hm, h2, List.nil_append]
theorem ba_ne {a b : ByteArray} (h : a ≠ b) : (a.toList == b.toList) = false := by
  rw [ByteArray.toList_eq, ByteArray.toList_eq, beq_eq_false_iff_ne]
  intro e
  apply h
  cases a; cases b
  congr 1
  exact Array.ext' e

namespace fnDedentedBack
set_option maxRecDepth 100000 in
set_option maxHeartbeats 1000000 in
theorem walk (s : ByteArray) (a : Int) (w : World) (_hs : s.size ≤ maxLen) (wa : (Lit.int .u8 a).wf = true) {X : Prop} (_hL : X) :
    Calls Tryd.prog 3 #[.string s, .int .u8 a] w fun e w' => e = .returned (.bool true) ∧ Below w.heap.size w w' := by
  obtain ⟨ha0, ha1⟩ := Go.bounds_u8 wa
  clear wa _hL
  unfold maxLen at _hs
  by_cases g1 : (2147483647 : Int) < s.size
  · go_enter Tryd.func3, Tryd.ntmps3
    go_wp2_with fail
    go_returns
    exact ⟨rfl, Below.refl _ _⟩
  have HS := Go.Lib.hid (plain16_any s w (by omega))
  obtain ⟨n, rfl⟩ := Int.eq_ofNat_of_zero_le ha0
  obtain ⟨l, hl⟩ := tx_of s
  have HSL := Go.Lib.hid hl
  obtain ⟨t, ht⟩ : ∃ t, t = ind n false l := ⟨_, rfl⟩
  obtain ⟨T, hT⟩ : ∃ T, T = tx t := ⟨_, rfl⟩
  have HTS : Hid ((s.size : Int) ≤ T.size) := by
    have := ind_ge n l false
    refine Go.Lib.hid ?_
    rw [hT, hl, tx_size, tx_size, ht]
    omega
  have HA : Hid (∀ W : World, Pla l ∧ s.size ≤ 2000 → n ≤ 100 → Calls Tryd.prog 10 #[.string s, .int .u64 (n : Nat)] W fun e w' => e = .returned (.string T) ∧ Below W.heap.size W w') := fun W h h1 => by
    obtain ⟨hp, hz⟩ := h
    rw [hl, tx_size] at hz
    rw [hl, hT, ht]
    have := ind_small n l 100 2000 h1 hz
    exact indented_any n l W hp.safe (by omega) (by omega) (by omega)
  have HB : Hid (∀ W : World, Pla l ∧ s.size ≤ 2000 → n ≤ 100 → Calls Tryd.prog 12 #[.string s, .int .i64 (n : Nat)] W fun e w' => e = .returned (.string T) ∧ Below W.heap.size W w') := fun W h h1 => by
    obtain ⟨hp, hz⟩ := h
    rw [hl, tx_size] at hz
    rw [hl, hT, ht]
    have := ind_small n l 100 2000 h1 hz
    exact specInd_any l n W (by omega) (by omega) (by omega)
  have HC : Hid (∀ W : World, Pla l ∧ s.size ≤ 2000 → n ≤ 100 → Calls Tryd.prog 11 #[.string T] W (SDPost t W)) := fun W h h1 => by
    obtain ⟨hp, hz⟩ := h
    rw [hl, tx_size] at hz
    rw [hT]
    have := ind_small n l 100 2000 h1 hz
    rw [← ht] at this
    exact specDed_any t W (by omega)
  have HD : Hid (∀ W : World, Pla l ∧ s.size ≤ 2000 → n ≤ 100 → Calls Tryd.prog 13 #[.string T] W fun e w' => e = .returned (.string (tx (dedL t))) ∧ Below W.heap.size W w') := fun W h h1 => by
    obtain ⟨hp, hz⟩ := h
    rw [hl, tx_size] at hz
    rw [hT]
    have := ind_small n l 100 2000 h1 hz
    rw [← ht] at this
    exact dedented_any t W (by rw [ht]; exact hp.ind n false) (by omega)
  have hwa : IntKind.u64.wrap (n : Int) = n := IntWalk.u64_in _ (by omega)
  have hwb : IntKind.i64.wrap (n : Int) = n := IntWalk.i64_in _ (by omega)
  clear hl ht hT
  go_enter Tryd.func3, Tryd.ntmps3
  go_wp2_with fail
  refine HS.out.mono ?_
  rintro e w1 ⟨bv, rfl, hp, rfl⟩
  cases bv
  · clear hp
    go_wp2_with fail
    go_returns
    exact ⟨rfl, Below.refl _ _⟩
  have hp' := hp rfl
  have HP : Hid (Pla l ∧ s.size ≤ 2000) := ⟨by
    have := hp'.1
    rw [HSL.out] at this
    exact this, hp'.2⟩
  clear hp hp'
  by_cases g0 : n = 0
  · subst g0
    go_wp2_with fail
    go_returns
    exact ⟨rfl, Below.refl _ _⟩
  have q0 : ((n : Int) == 0) = false := by simp; omega
  by_cases g2 : (100 : Int) < n
  · go_wp2_with fail
    go_returns
    exact ⟨rfl, Below.refl _ _⟩
  go_wp2_with fail
  refine (HA.out _ HP.out (by omega)).mono ?_
  rintro e w2 ⟨rfl, b2⟩
  have B2 := Go.Lib.hid b2
  clear b2
  go_wp2_with fail
  refine (HB.out _ HP.out (by omega)).mono ?_
  rintro e w3 ⟨rfl, b3⟩
  have B3 : Hid (Below w.heap.size w w3) := B2.out.trans (b3.mono B2.out.size)
  clear b3
  go_wp2_with fail
  refine (HC.out _ HP.out (by omega)).mono ?_
  rintro e w4 ⟨b, r, rfl, hr, b4⟩
  have B4 : Hid (Below w.heap.size w w4) := B3.out.trans (b4.mono B3.out.size)
  have HR := Go.Lib.hid hr
  clear b4 hr
  cases b
  · go_wp2_with fail
    go_returns
    exact ⟨rfl, B4.out⟩
  by_cases hrs : r = s
  · have e2 : (s.toList == s.toList) = true := by simp
    have e3 : (s.toList != s.toList) = false := by simp
    have HDD : Hid (Calls Tryd.prog 13 #[.string T] w4 fun e w' => e = .returned (.string s) ∧ Below w4.heap.size w4 w') := by
      have h1 := HD.out w4 HP.out (by omega)
      obtain ⟨k1, k2, k3⟩ := HR.out rfl
      rw [dedL_eq t k1 k2, ← k3, hrs] at h1
      exact Go.Lib.hid h1
    have hts := HTS.out
    subst hrs
    go_wp2_with fail
    refine HDD.out.mono ?_
    rintro e w5 ⟨rfl, b5⟩
    have B5 : Hid (Below w.heap.size w w5) := B4.out.trans (b5.mono B4.out.size)
    clear b5
    go_wp2_with fail
    go_returns
    exact ⟨rfl, B5.out⟩
  · have e2 : (r.toList == s.toList) = false := ba_ne hrs
    have e3 : (r.toList != s.toList) = true := by rw [bne, e2]; rfl
    clear hrs
    go_wp2_with fail
    go_returns
    exact ⟨rfl, B4.out⟩
end fnDedentedBack
end Go.Proofs.YtbibokkclejapaaDoor
