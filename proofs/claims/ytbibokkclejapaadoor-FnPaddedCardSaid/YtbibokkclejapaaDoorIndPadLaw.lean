/- laws.FnPadded. -/
import Derived.Test.YtbibokkclejapaaDoorIndPadAll
import Derived.Test.YtbibokkclejapaaDoorIndSumLaw
namespace Go.Proofs.YtbibokkclejapaaDoor
open Go.RowKit
set_option linter.unusedVariables false
set_option linter.unusedSimpArgs false

namespace fnPadded
set_option maxRecDepth 100000 in
set_option maxHeartbeats 1000000 in
theorem walk (s : ByteArray) (a : Int) (w : World) (_hs : s.size ≤ maxLen) (wa : (Lit.int .u8 a).wf = true) {X : Prop} (_hL : X) :
    Calls Tryd.prog 7 #[.string s, .int .u8 a] w fun e w' => e = .returned (.bool true) ∧ Below w.heap.size w w' := by
  obtain ⟨ha0, ha1⟩ := Go.bounds_u8 wa
  clear wa _hL
  unfold maxLen at _hs
  by_cases g1 : (2147483647 : Int) < s.size
  · go_enter Tryd.func7, Tryd.ntmps7
    go_wp2_with fail
    go_returns
    exact ⟨rfl, Below.refl _ _⟩
  have HS := Go.Lib.hid (plain16_any s w (by omega))
  obtain ⟨n, rfl⟩ := Int.eq_ofNat_of_zero_le ha0
  obtain ⟨l, hl⟩ := tx_of s
  have HSL := Go.Lib.hid hl
  have hsz : s.size ≤ 2000 → n ≤ 200 → l.length ≤ 2000 ∧ (padP n 0 l).length ≤ 402000 ∧ (padL n l).length ≤ 403000 := fun h1 h2 => by
    rw [hl, tx_size] at h1
    have k1 := padP_length n l 0
    have k2 := Nat.mul_le_mul (show n + 1 ≤ 201 by omega) h1
    have k3 := padE_length n l
    refine ⟨h1, by omega, ?_⟩
    rw [padL, List.length_append]
    omega
  have HA : Hid (∀ W : World, Pla l ∧ s.size ≤ 2000 → n ≤ 200 → Calls Tryd.prog 19 #[.string s, .int .u64 (n : Nat)] W fun e w' => e = .returned (.string (tx (padL n l))) ∧ Below W.heap.size W w') := fun W h h1 => by
    obtain ⟨k1, k2, k3⟩ := hsz h.2 h1
    rw [hl]
    exact padded_any n l W h.1 (by omega) (by omega) (by omega)
  have HB : Hid (∀ W : World, Pla l ∧ s.size ≤ 2000 → n ≤ 200 → Calls Tryd.prog 20 #[.string s, .int .i64 (n : Nat)] W fun e w' => e = .returned (.string (tx (padL n l))) ∧ Below W.heap.size W w') := fun W h h1 => by
    obtain ⟨k1, k2, k3⟩ := hsz h.2 h1
    rw [hl]
    exact specPad_any l n W (by omega) (by omega) (by omega)
  have HD : Hid (∀ W : World, Calls Tryd.prog 19 #[.string ⟨#[97]⟩, .int .u64 2] W fun e w' => e = .returned (.string ⟨#[97, 32]⟩) ∧ Below W.heap.size W w') := fun W =>
    padded_any 2 [97] W (fun c hc => by rw [List.mem_singleton] at hc; rw [hc]; exact .inr (by decide)) (by omega) (by decide) (by decide)
  obtain ⟨r, hr⟩ : ∃ r, r = tx (padL n l) := ⟨_, rfl⟩
  rw [← hr] at HA HB
  have hwa : IntKind.u64.wrap (n : Int) = n := IntWalk.u64_in _ (by omega)
  have hwb : IntKind.i64.wrap (n : Int) = n := IntWalk.i64_in _ (by omega)
  have e2 : (r.toList == r.toList) = true := by simp
  have e3 : ((ByteArray.mk #[97, 32]).toList == (ByteArray.mk #[97, 32]).toList) = true := by simp
  clear hl hr hsz
  go_enter Tryd.func7, Tryd.ntmps7
  go_wp2_with fail
  refine HS.out.mono ?_
  rintro e w1 ⟨bv, rfl, hp, rfl⟩
  cases bv
  · clear hp
    go_wp2_with fail
    go_returns
    exact ⟨rfl, Below.refl _ _⟩
  have hp' := hp rfl
  have HP : Hid (Pla l ∧ s.size ≤ 2000) := ⟨by
    have := hp'.1
    rw [HSL.out] at this
    exact this, hp'.2⟩
  clear hp hp'
  by_cases g2 : (200 : Int) < n
  · go_wp2_with fail
    go_returns
    exact ⟨rfl, Below.refl _ _⟩
  go_wp2_with fail
  refine (HA.out _ HP.out (by omega)).mono ?_
  rintro e w2 ⟨rfl, b2⟩
  have B2 := Go.Lib.hid b2
  clear b2
  go_wp2_with fail
  refine (HB.out _ HP.out (by omega)).mono ?_
  rintro e w3 ⟨rfl, b3⟩
  have B3 : Hid (Below w.heap.size w w3) := B2.out.trans (b3.mono B2.out.size)
  clear b3
  go_wp2_with fail
  refine (HD.out _).mono ?_
  rintro e w5 ⟨rfl, b5⟩
  have B5 : Hid (Below w.heap.size w w5) := B3.out.trans (b5.mono B3.out.size)
  clear b5
  go_wp2_with fail
  go_returns
  exact ⟨rfl, B5.out⟩
end fnPadded
end Go.Proofs.YtbibokkclejapaaDoor
