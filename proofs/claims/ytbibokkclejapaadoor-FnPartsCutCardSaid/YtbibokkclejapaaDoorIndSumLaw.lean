/- laws.FnIndentedSum. -/
import Derived.Test.YtbibokkclejapaaDoorIndAll
namespace Go.Proofs.YtbibokkclejapaaDoor
open Go.RowKit
set_option linter.unusedVariables false
set_option linter.unusedSimpArgs false

theorem tx_of (s : ByteArray) : ∃ l, s = tx l := ⟨s.data.toList, (congrArg ByteArray.mk s.data.toArray_toList).symm⟩
theorem Pla.safe {l : List UInt8} (h : Pla l) : ∀ c ∈ l, c.toNat < 128 ∧ c.toNat ≠ 27 := fun c hc => by
  rcases h c hc with rfl | h2
  · decide
  · omega
theorem ind_small (n : Nat) (l : List UInt8) (m k : Nat) (hn : n ≤ m) (hl : l.length ≤ k) : (ind n false l).length ≤ (m + 1) * k :=
  Nat.le_trans (ind_length n l false) (Nat.mul_le_mul (by omega) hl)

namespace fnIndentedSum
set_option maxRecDepth 100000 in
set_option maxHeartbeats 1000000 in
theorem walk (s : ByteArray) (a b : Int) (w : World) (_hs : s.size ≤ maxLen) (wa : (Lit.int .u8 a).wf = true) (wb : (Lit.int .u8 b).wf = true) {X : Prop} (_hL : X) :
    Calls Tryd.prog 6 #[.string s, .int .u8 a, .int .u8 b] w fun e w' => e = .returned (.bool true) ∧ Below w.heap.size w w' := by
  obtain ⟨ha0, ha1⟩ := Go.bounds_u8 wa
  obtain ⟨hb0, hb1⟩ := Go.bounds_u8 wb
  clear wa wb _hL
  unfold maxLen at _hs
  by_cases g1 : (2147483647 : Int) < s.size
  · go_enter Tryd.func6, Tryd.ntmps6
    go_wp2_with fail
    go_returns
    exact ⟨rfl, Below.refl _ _⟩
  have HS := Go.Lib.hid (some16_any s w (by omega))
  obtain ⟨an, rfl⟩ := Int.eq_ofNat_of_zero_le ha0
  obtain ⟨bn, rfl⟩ := Int.eq_ofNat_of_zero_le hb0
  obtain ⟨l, hl⟩ := tx_of s
  have HSL := Go.Lib.hid hl
  have HA : Hid (∀ W : World, Pla l ∧ s.size ≤ 800 → an ≤ 50 → Calls Tryd.prog 10 #[.string s, .int .u64 (an : Nat)] W fun e w' => e = .returned (.string (tx (ind an false l))) ∧ Below W.heap.size W w') := fun W h h1 => by
    obtain ⟨hp, hz⟩ := h
    rw [hl, tx_size] at hz
    rw [hl]
    have := ind_small an l 50 800 h1 hz
    exact indented_any an l W hp.safe (by omega) (by omega) (by omega)
  have HB : Hid (∀ W : World, Pla l ∧ s.size ≤ 800 → an ≤ 50 → bn ≤ 50 → Calls Tryd.prog 10 #[.string (tx (ind an false l)), .int .u64 (bn : Nat)] W fun e w' => e = .returned (.string (tx (ind (an + bn) false l))) ∧ Below W.heap.size W w') := fun W h h1 h2 => by
    obtain ⟨hp, hz⟩ := h
    rw [hl, tx_size] at hz
    have k1 := ind_small an l 50 800 h1 hz
    have k2 := ind_small (an + bn) l 100 800 (by omega) hz
    have := indented_any bn (ind an false l) W (hp.ind an false).safe (by omega) (by rw [ind_sum]; omega) (by omega)
    rw [ind_sum] at this
    exact this
  have HC : Hid (∀ W : World, Pla l ∧ s.size ≤ 800 → an ≤ 50 → bn ≤ 50 → Calls Tryd.prog 10 #[.string s, .int .u64 ((an + bn : Nat))] W fun e w' => e = .returned (.string (tx (ind (an + bn) false l))) ∧ Below W.heap.size W w') := fun W h h1 h2 => by
    obtain ⟨hp, hz⟩ := h
    rw [hl, tx_size] at hz
    rw [hl]
    have := ind_small (an + bn) l 100 800 (by omega) hz
    exact indented_any (an + bn) l W hp.safe (by omega) (by omega) (by omega)
  have HD : Hid (∀ W : World, Calls Tryd.prog 10 #[.string ⟨#[97]⟩, .int .u64 1] W fun e w' => e = .returned (.string ⟨#[32, 97]⟩) ∧ Below W.heap.size W w') := fun W =>
    indented_any 1 [97] W (fun c hc => by rw [List.mem_singleton] at hc; rw [hc]; decide) (by omega) (by decide) (by decide)
  obtain ⟨r1, hr1⟩ : ∃ r, r = tx (ind an false l) := ⟨_, rfl⟩
  obtain ⟨r2, hr2⟩ : ∃ r, r = tx (ind (an + bn) false l) := ⟨_, rfl⟩
  rw [← hr1] at HA HB
  rw [← hr2] at HB HC
  have hwa : IntKind.u64.wrap (an : Int) = an := IntWalk.u64_in _ (by omega)
  have hwb : IntKind.u64.wrap (bn : Int) = bn := IntWalk.u64_in _ (by omega)
  have hwab : IntKind.u64.wrap ((an : Int) + bn) = ((an + bn : Nat) : Int) := by
    rw [IntWalk.u64_in _ (by omega)]; omega
  have e2 : (r2.toList == r2.toList) = true := by simp
  have e3 : ((ByteArray.mk #[32, 97]).toList == (ByteArray.mk #[32, 97]).toList) = true := by simp
  clear hl hr1 hr2
  go_enter Tryd.func6, Tryd.ntmps6
  go_wp2_with fail
  refine HS.out.mono ?_
  rintro e w1 ⟨bv, rfl, hp, rfl⟩
  cases bv
  · clear hp
    go_wp2_with fail
    go_returns
    exact ⟨rfl, Below.refl _ _⟩
  have hp' := hp rfl
  have HP : Hid (Pla l ∧ s.size ≤ 800) := ⟨by
    have := hp'.1
    rw [HSL.out] at this
    exact this, hp'.2⟩
  clear hp hp'
  by_cases g2 : (50 : Int) < an
  · go_wp2_with fail
    go_returns
    exact ⟨rfl, Below.refl _ _⟩
  by_cases g3 : (50 : Int) < bn
  · go_wp2_with fail
    go_returns
    exact ⟨rfl, Below.refl _ _⟩
  go_wp2_with fail
  refine (HA.out _ HP.out (by omega)).mono ?_
  rintro e w2 ⟨rfl, b2⟩
  have B2 := Go.Lib.hid b2
  clear b2
  go_wp2_with fail
  refine (HB.out _ HP.out (by omega) (by omega)).mono ?_
  rintro e w3 ⟨rfl, b3⟩
  have B3 : Hid (Below w.heap.size w w3) := B2.out.trans (b3.mono B2.out.size)
  clear b3
  go_wp2_with fail
  refine (HC.out _ HP.out (by omega) (by omega)).mono ?_
  rintro e w4 ⟨rfl, b4⟩
  have B4 : Hid (Below w.heap.size w w4) := B3.out.trans (b4.mono B3.out.size)
  clear b4
  go_wp2_with fail
  refine (HD.out _).mono ?_
  rintro e w5 ⟨rfl, b5⟩
  have B5 : Hid (Below w.heap.size w w5) := B4.out.trans (b5.mono B4.out.size)
  clear b5
  go_wp2_with fail
  go_returns
  exact ⟨rfl, B5.out⟩
end fnIndentedSum
end Go.Proofs.YtbibokkclejapaaDoor
