/- laws.FnIndentedBy. -/
import Derived.Test.YtbibokkclejapaaDoorIndBySpec
import Derived.Test.YtbibokkclejapaaDoorIndSumLaw
namespace Go.Proofs.YtbibokkclejapaaDoor
open Go.RowKit
set_option linter.unusedVariables false
set_option linter.unusedSimpArgs false

namespace fnIndentedBy
set_option maxRecDepth 100000 in
set_option maxHeartbeats 1000000 in
theorem walk (s : ByteArray) (a : Int) (t : ByteArray) (w : World) (_hs : s.size ≤ maxLen) (wa : (Lit.int .u8 a).wf = true) (_ht : t.size ≤ maxLen) {X : Prop} (_hL : X) :
    Calls Tryd.prog 4 #[.string s, .int .u8 a, .string t] w fun e w' => e = .returned (.bool true) ∧ Below w.heap.size w w' := by
  obtain ⟨ha0, ha1⟩ := Go.bounds_u8 wa
  clear wa _hL
  unfold maxLen at _hs _ht
  by_cases g1 : (2147483647 : Int) < s.size
  · go_enter Tryd.func4, Tryd.ntmps4
    go_wp2_with fail
    go_returns
    exact ⟨rfl, Below.refl _ _⟩
  by_cases g2 : (2147483647 : Int) < t.size
  · go_enter Tryd.func4, Tryd.ntmps4
    go_wp2_with fail
    go_returns
    exact ⟨rfl, Below.refl _ _⟩
  have HS := Go.Lib.hid (some16_any s w (by omega))
  have HT := Go.Lib.hid (some16_any t w (by omega))
  obtain ⟨n, rfl⟩ := Int.eq_ofNat_of_zero_le ha0
  obtain ⟨l, hl⟩ := tx_of s
  obtain ⟨bl, hbl⟩ := tx_of t
  have HSL := Go.Lib.hid hl
  have HTL := Go.Lib.hid hbl
  have hsz : Pla l ∧ s.size ≤ 800 → Pla bl ∧ t.size ≤ 800 → t.size ≤ 20 → n ≤ 50 → l.length ≤ 800 ∧ bl.length ≤ 20 ∧ (rep bl n).length ≤ 1000 ∧ (indP (rep bl n) false l).length ≤ 801000 := fun h1 h2 h3 h4 => by
    have k1 := h1.2
    rw [hl, tx_size] at k1
    rw [hbl, tx_size] at h3
    have k2 : (rep bl n).length ≤ 1000 := by
      rw [rep_length]
      have := Nat.mul_le_mul h4 h3
      omega
    have k3 := indP_length (rep bl n) l false
    have k4 := Nat.mul_le_mul (show (rep bl n).length + 1 ≤ 1001 by omega) k1
    exact ⟨k1, h3, k2, by omega⟩
  have HA : Hid (∀ W : World, Pla l ∧ s.size ≤ 800 → Pla bl ∧ t.size ≤ 800 → t.size ≤ 20 → n ≤ 50 → Calls Tryd.prog 15 #[.string s, .int .u64 (n : Nat), .string t] W fun e w' => e = .returned (.string (tx (indP (rep bl n) false l))) ∧ Below W.heap.size W w') := fun W h1 h2 h3 h4 => by
    obtain ⟨k1, k2, k3, k4⟩ := hsz h1 h2 h3 h4
    rw [hl, hbl]
    exact indentedBy_any n l bl W h1.1.safe h2.1.safe (by omega) (by omega) (by omega)
  have HB : Hid (∀ W : World, Pla l ∧ s.size ≤ 800 → Pla bl ∧ t.size ≤ 800 → t.size ≤ 20 → n ≤ 50 → Calls Tryd.prog 16 #[.string s, .int .i64 (n : Nat), .string t] W fun e w' => e = .returned (.string (tx (indP (rep bl n) false l))) ∧ Below W.heap.size W w') := fun W h1 h2 h3 h4 => by
    obtain ⟨k1, k2, k3, k4⟩ := hsz h1 h2 h3 h4
    rw [hl, hbl]
    exact specBy_any l bl n W (by omega) (by omega) (by omega) (by omega)
  have HD : Hid (∀ W : World, Calls Tryd.prog 15 #[.string ⟨#[97]⟩, .int .u64 2, .string ⟨#[45]⟩] W fun e w' => e = .returned (.string ⟨#[45, 45, 97]⟩) ∧ Below W.heap.size W w') := fun W =>
    indentedBy_any 2 [97] [45] W (fun c hc => by rw [List.mem_singleton] at hc; rw [hc]; decide) (fun c hc => by rw [List.mem_singleton] at hc; rw [hc]; decide) (by omega) (by decide) (by decide)
  obtain ⟨r, hr⟩ : ∃ r, r = tx (indP (rep bl n) false l) := ⟨_, rfl⟩
  rw [← hr] at HA HB
  have hwa : IntKind.u64.wrap (n : Int) = n := IntWalk.u64_in _ (by omega)
  have hwb : IntKind.i64.wrap (n : Int) = n := IntWalk.i64_in _ (by omega)
  have e2 : (r.toList == r.toList) = true := by simp
  have e3 : ((ByteArray.mk #[45, 45, 97]).toList == (ByteArray.mk #[45, 45, 97]).toList) = true := by simp
  clear hl hbl hr hsz
  go_enter Tryd.func4, Tryd.ntmps4
  go_wp2_with fail
  refine HS.out.mono ?_
  rintro e w1 ⟨bv, rfl, hp, rfl⟩
  cases bv
  · clear hp
    go_wp2_with fail
    go_returns
    exact ⟨rfl, Below.refl _ _⟩
  have hp' := hp rfl
  have HP : Hid (Pla l ∧ s.size ≤ 800) := ⟨by
    have := hp'.1
    rw [HSL.out] at this
    exact this, hp'.2⟩
  clear hp hp'
  go_wp2_with fail
  refine HT.out.mono ?_
  rintro e w1 ⟨bv, rfl, hp, rfl⟩
  cases bv
  · clear hp
    go_wp2_with fail
    go_returns
    exact ⟨rfl, Below.refl _ _⟩
  have hp' := hp rfl
  have HQ : Hid (Pla bl ∧ t.size ≤ 800) := ⟨by
    have := hp'.1
    rw [HTL.out] at this
    exact this, hp'.2⟩
  clear hp hp'
  by_cases g3 : (20 : Int) < t.size
  · go_wp2_with fail
    go_returns
    exact ⟨rfl, Below.refl _ _⟩
  by_cases g4 : (50 : Int) < n
  · go_wp2_with fail
    go_returns
    exact ⟨rfl, Below.refl _ _⟩
  go_wp2_with fail
  refine (HA.out _ HP.out HQ.out (by omega) (by omega)).mono ?_
  rintro e w2 ⟨rfl, b2⟩
  have B2 := Go.Lib.hid b2
  clear b2
  go_wp2_with fail
  refine (HB.out _ HP.out HQ.out (by omega) (by omega)).mono ?_
  rintro e w3 ⟨rfl, b3⟩
  have B3 : Hid (Below w.heap.size w w3) := B2.out.trans (b3.mono B2.out.size)
  clear b3
  go_wp2_with fail
  refine (HD.out _).mono ?_
  rintro e w5 ⟨rfl, b5⟩
  have B5 : Hid (Below w.heap.size w w5) := B3.out.trans (b5.mono B3.out.size)
  clear b5
  go_wp2_with fail
  go_returns
  exact ⟨rfl, B5.out⟩
end fnIndentedBy
end Go.Proofs.YtbibokkclejapaaDoor
