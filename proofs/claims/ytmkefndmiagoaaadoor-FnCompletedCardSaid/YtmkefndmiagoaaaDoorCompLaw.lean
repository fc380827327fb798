/- laws.FnCompleted: the walk. -/
import Derived.Test.YtmkefndmiagoaaaDoorOfBlankC
import Derived.Test.YtmkefndmiagoaaaDoorRowStrs
namespace Go.Proofs.YtmkefndmiagoaaaDoor
open Go.RowKit
set_option linter.unusedVariables false
set_option linter.unusedSimpArgs false

namespace fnCompleted
set_option maxRecDepth 100000 in
set_option maxHeartbeats 4000000 in
theorem walk (a : Option Addr) (len cap : Nat) (ss : List ByteArray) (wh : Int) (a2 : Option Addr) (len2 cap2 : Nat) (ks : List ByteArray) (b : ByteArray) (bl : Int) (w : World) (w0 : ss.length = len ∧ IsStrs w a ss) (w1 : (Lit.int .u8 wh).wf = true) (w2 : ks.length = len2 ∧ IsStrs w a2 ks) (_hb : b.size ≤ maxLen) (w4 : (Lit.int .u8 bl).wf = true) {X : Prop} (_hL : X) :
    Calls Tryd.prog 3 #[.slice a len cap, .int .u8 wh, .slice a2 len2 cap2, .string b, .int .u8 bl] w fun e w' => e = .returned (.bool true) ∧ Below w.heap.size w w' := by
  obtain ⟨rfl, h⟩ := w0
  obtain ⟨rfl, h2⟩ := w2
  obtain ⟨hw0, hw1⟩ := Go.bounds_u8 w1
  obtain ⟨hl0, hl1⟩ := Go.bounds_u8 w4
  obtain ⟨wn, rfl⟩ := Int.eq_ofNat_of_zero_le hw0
  obtain ⟨bn, rfl⟩ := Int.eq_ofNat_of_zero_le hl0
  have HH := Go.Lib.hid h
  have HH2 := Go.Lib.hid h2
  have HF := Go.Lib.hid (fits1_any a cap ss w h)
  have HF2 := Go.Lib.hid fun W h => fits1_any a2 cap2 ks W h
  have HNM := Go.Lib.hid fun W h1 h2 h3 => names_any a cap ss W h1 h2 h3
  have HNM2 := Go.Lib.hid fun W h1 h2 h3 => names_any a2 cap2 ks W h1 h2 h3
  have HOF := Go.Lib.hid fun W h1 h2 h3 h4 => offers_any a cap ss b W h1 h2 h3 h4
  have HOF2 := Go.Lib.hid fun W h1 h2 h3 h4 => offers_any a2 cap2 ks b W h1 h2 h3 h4
  have HTR := Go.Lib.hid fun q W h1 h2 h3 h4 h5 => tree_any a a2 cap cap2 ss ks q W h1 h2 h3 h4 h5
  clear h h2 _hb w1 w4 hw0 hl0
  obtain ⟨n, hn⟩ : ∃ n, n = ss.length := ⟨_, rfl⟩
  obtain ⟨n2, hn2⟩ : ∃ n, n = ks.length := ⟨_, rfl⟩
  have HN := Go.Lib.hid hn
  have HN2 := Go.Lib.hid hn2
  rw [← hn] at HF HNM HOF HTR ⊢
  rw [← hn2] at HF2 HNM2 HOF2 HTR ⊢
  clear hn hn2
  go_enter Tryd.func3, Tryd.ntmps3
  go_wp2_with fail
  refine HF.out.mono ?_
  rintro e w1 ⟨r, rfl, hr, hw1⟩
  have hw1' := hw1.symm
  subst hw1'
  clear hw1
  have HFT := Go.Lib.hid hr
  clear hr
  cases r
  · go_wp2_with fail
    go_returns
    exact ⟨rfl, Below.refl _ _⟩
  have HFS := Go.Lib.hid (HFT.out rfl)
  clear HFT HF
  go_wp2_with fail
  refine (HF2.out _ HH2.out).mono ?_
  rintro e w1 ⟨r, rfl, hr, hw1⟩
  have hw1' := hw1.symm
  subst hw1'
  clear hw1
  have HFT := Go.Lib.hid hr
  clear hr
  cases r
  · go_wp2_with fail
    go_returns
    exact ⟨rfl, Below.refl _ _⟩
  have HFS2 := Go.Lib.hid (HFT.out rfl)
  clear HFT HF2
  by_cases hbl : (2147483647 : Int) < b.size
  · go_wp2_with fail
    go_returns
    exact ⟨rfl, Below.refl _ _⟩
  go_wp2_with fail
  refine (HNM.out _ HH.out HFS.out.2 (by have := HFS.out.1; rw [← HN.out] at this; exact this)).mono ?_
  rintro e w2 ⟨r, rfl, hr, b2⟩
  have HNT := Go.Lib.hid hr
  have HB2 := Go.Lib.hid b2
  clear hr b2 HNM
  cases r
  · go_wp2_with fail
    go_returns
    exact ⟨rfl, HB2.out⟩
  have HNS := Go.Lib.hid (HNT.out (by trivial))
  clear HNT
  go_wp2_with fail
  refine (HNM2.out _ (HH2.out.below HB2.out) HFS2.out.2 (by have := HFS2.out.1; rw [← HN2.out] at this; exact this)).mono ?_
  rintro e w3 ⟨r, rfl, hr, b3⟩
  have HNT := Go.Lib.hid hr
  have HB3 : Hid (Below w.heap.size w w3) := HB2.out.trans (b3.mono HB2.out.size)
  clear hr b3 HNM2
  cases r
  · go_wp2_with fail
    go_returns
    exact ⟨rfl, HB3.out⟩
  have HNS2 := Go.Lib.hid (HNT.out (by trivial))
  clear HNT
  by_cases h0 : n = 0
  · have q : ((n : Int) == 0) = true := by simp [h0]
    go_wp2_with fail
    go_returns
    exact ⟨rfl, HB3.out⟩
  have q : ((n : Int) == 0) = false := by simp; omega
  by_cases h12 : (12 : Int) < b.size
  · go_wp2_with fail
    go_returns
    exact ⟨rfl, HB3.out⟩
  go_wp2_with fail
  refine (small_any b w3 (by omega)).mono ?_
  rintro e w4 ⟨r, rfl, hr, rfl⟩
  have HST := Go.Lib.hid hr
  clear hr
  cases r
  · go_wp2_with fail
    go_returns
    exact ⟨rfl, HB3.out⟩
  have HSM := Go.Lib.hid (HST.out (by trivial))
  clear HST
  have hn8 : n ≤ 8 := by rw [HN.out]; exact HNS.out.len
  have hn28 : n2 ≤ 8 := by rw [HN2.out]; exact HNS2.out.len
  obtain ⟨qq, hqq⟩ : ∃ z, z = wn % n := ⟨_, rfl⟩
  have hqn : qq < n := by rw [hqq]; exact Nat.mod_lt _ (by omega)
  have hrem : (wn : Int).tmod (n : Int) = (qq : Nat) := by rw [hqq]; rfl
  clear hqq
  go_wp2_with fail
  refine (HTR.out qq _ (HH.out.below HB3.out) (HH2.out.below HB3.out) hn8 hn28 (by omega)).mono ?_
  rintro e w4 ⟨A4, c4, rfl, hw4, hc4, b4⟩
  have HB4 : Hid (Below w.heap.size w w4) := HB3.out.trans (b4.mono HB3.out.size)
  have HW4 := Go.Lib.hid hw4
  have HCO := Go.Lib.hid fun (x : ByteArray) (W : World) (h1 : WordsAt W A4 (flatW (treeT ss qq ks))) (h2 : IsSmall x) (h3 : x.size ≤ 100) => letters_any ss ks qq A4 c4 x W h1 hc4 HNS.out HNS2.out h2 h3
  have HC2 := Go.Lib.hid fun (s b x : ByteArray) (k0 : Nat) (W : World) (h1 : WordsAt W A4 (flatW (treeT ss qq ks))) (h2 : txt ss qq = s) (h3 : Line2 s b x k0) (h4 : x.size ≤ 100) => blanks_any ss ks qq A4 c4 s b x k0 W h1 hc4 HNS.out HNS2.out (by rw [← HN.out]; exact hqn) h2 h3 h4
  generalize (flatW (treeT ss qq ks)).length = k4 at hc4 HCO HC2 ⊢
  clear hw4 b4 HTR hc4
  go_wp2_with fail
  refine (HCO.out b w4 HW4.out HSM.out (by omega)).mono ?_
  rintro e w5 ⟨A5, c5, off5, rfl, ho5, hst5, b5⟩
  have HB5 : Hid (Below w.heap.size w w5) := HB4.out.trans (b5.mono HB4.out.size)
  have HW5 := Go.Lib.hid (HW4.out.below b5)
  have HS5 := Go.Lib.hid hst5
  have HO5 := Go.Lib.hid ho5
  clear ho5 hst5 b5
  go_wp2_with fail
  refine (HOF.out _ (HH.out.below HB5.out) hn8 (fun j hj => (HNS.out.word j (by rw [← HN.out]; exact hj)).2.1) (by omega)).mono ?_
  rintro e w6 ⟨A6, c6, rfl, hst6, b6⟩
  have HB6 : Hid (Below w.heap.size w w6) := HB5.out.trans (b6.mono HB5.out.size)
  have HW6 := Go.Lib.hid (HW5.out.below b6)
  have HL8 : Hid ((offs ss b).length ≤ 8) := by have := offs_len ss b; have h := HNS.out.len; show _ ≤ 8; omega
  have HSA := Go.Lib.hid (sameTexts_any A5 A6 c5 c6 (offs ss b) w6 (HS5.out.below b6) hst6 (by have := HL8.out; omega))
  clear hst6 b6 HOF HCO
  generalize offs ss b = L at HO5 HL8 HSA HS5 ⊢
  go_wp2_with fail
  refine HSA.out.mono ?_
  rintro e w7 ⟨rfl, b7⟩
  have HB7 : Hid (Below w.heap.size w w7) := HB6.out.trans (b7.mono HB6.out.size)
  have HW7 := Go.Lib.hid (HW6.out.below b7)
  clear b7 HSA
  have hcase : (¬ (0 : Int) < L.length) ∨ ((0 : Int) < L.length ∧ off5 = b.size) := by
    by_cases h : (0 : Int) < L.length
    · exact .inr ⟨h, HO5.out (by intro e; rw [e] at h; simp at h)⟩
    · exact .inl h
  obtain ⟨r4, hr4⟩ : ∃ r, r = bn % 4 := ⟨_, rfl⟩
  have hr44 : r4 < 4 := by rw [hr4]; exact Nat.mod_lt _ (by omega)
  have hbrem : (bn : Int).tmod 4 = (r4 : Nat) := by rw [hr4]; rfl
  obtain ⟨k0, hk0⟩ : ∃ k, k = r4 + 1 := ⟨_, rfl⟩
  have hwrap : IntKind.u8.wrap (1 + (r4 : Int)) = (k0 : Nat) := by rw [IntWalk.u8_in _ (by omega)]; omega
  have hk1 : 1 ≤ k0 := by omega
  have hk4 : k0 ≤ 4 := by omega
  have hsl : ∀ W, (Instr.slice 9 (.string ⟨#[32, 32, 32, 32]⟩) none (some (.int .u8 (k0 : Nat))) none).run Tryd.prog W = .ok (.string (blk k0)) W := fun W => by
    rcases (show k0 = 1 ∨ k0 = 2 ∨ k0 = 3 ∨ k0 = 4 by omega) with rfl | rfl | rfl | rfl <;> kernel_rfl
  clear hr4 hk0
  rcases hcase with hz1 | ⟨hz1, rfl⟩
  all_goals
    cases he : b.toList.isEmpty
    case true =>
      go_wp2_with fail
      go_returns
      exact ⟨rfl, HB7.out⟩
    have hbpos := size_pos he
    rcases HH.out.below HB7.out with e | ⟨g, o, rfl, hg, hc⟩
    · have := HN.out; rw [e] at this; simp at this; omega
    have c1 := hc qq (by rw [← HN.out]; exact hqn)
    obtain ⟨hs0, hs12, hss⟩ := HNS.out.word qq (by rw [← HN.out]; exact hqn)
    obtain ⟨s, hs⟩ : ∃ s, s = txt ss qq := ⟨_, rfl⟩
    have HSQ : Hid (txt ss qq = s) := hs.symm
    rw [← hs] at c1 hs0 hs12 hss
    obtain ⟨x, hx⟩ : ∃ x, x = s ++ blk k0 ++ b := ⟨_, rfl⟩
    have HL2 : Hid (Line2 s b x k0) := ⟨hss, HSM.out, hk1, hk4, hs0, hbpos, hx⟩
    have hxs := HL2.out.size
    have hbk := blk_size k0 hk1 hk4
    have hcat1 : (9223372036854775807 < s.size + (blk k0).size) = False := by rw [hbk]; simp; omega
    have hcat2 : (9223372036854775807 < (s ++ blk k0).size + b.size) = False := by rw [ByteArray.size_append, hbk]; simp; omega
    have hcat3 : (9223372036854775807 < s.size + (blk k0).size + b.size) = False := by rw [hbk]; simp; omega
    have hxe : s ++ blk k0 ++ b = x := hx.symm
    have hxz : x.size ≤ 100 := by omega
    have hq0 : (0 : Int) ≤ qq := by omega
    have hq1 : (qq : Int) < n := by omega
    clear hs hx hc hss hxs hbk
    go_wp2_with fail
    go_quiet (fail)
    have HB8 : Hid (Below w.heap.size w (w7.drewN nq)) := below_drewN HB7.out _
    have HW8 := Go.Lib.hid (HW7.out.below (below_drewN (Below.refl _ _) nq))
    clear c1 hcat1 hcat2 hcat3
    go_wp2_with fail
    refine (HC2.out s b x k0 _ HW8.out HSQ.out HL2.out hxz).mono ?_
    rintro e w9 ⟨A9, c9, off9, rfl, ho9, hst9, b9⟩
    have HB9 : Hid (Below w.heap.size w w9) := HB8.out.trans (b9.mono HB8.out.size)
    have HS9 := Go.Lib.hid hst9
    have HO9 := Go.Lib.hid ho9
    clear ho9 hst9 b9
    go_wp2_with fail
    refine (HOF2.out _ (HH2.out.below HB9.out) hn28 (fun j hj => (HNS2.out.word j (by rw [← HN2.out]; exact hj)).2.1) (by omega)).mono ?_
    rintro e w10 ⟨A10, c10, rfl, hst10, b10⟩
    have HB10 : Hid (Below w.heap.size w w10) := HB9.out.trans (b10.mono HB9.out.size)
    have HL9 : Hid ((offs ks b).length ≤ 8) := by have := offs_len ks b; have h := HNS2.out.len; show _ ≤ 8; omega
    have HSB := Go.Lib.hid (sameTexts_any A9 A10 c9 c10 (offs ks b) w10 (HS9.out.below b10) hst10 (by have := HL9.out; omega))
    clear hst10 b10
    generalize offs ks b = L2 at HO9 HL9 HSB HS9 ⊢
    go_wp2_with fail
    refine HSB.out.mono ?_
    rintro e w11 ⟨rfl, b11⟩
    have HB11 : Hid (Below w.heap.size w w11) := HB10.out.trans (b11.mono HB10.out.size)
    clear b11 HSB
    by_cases hL0 : L2.length = 0
    · have q9 : ((L2.length : Int) == 0) = true := by rw [hL0]; rfl
      go_wp2_with fail
      go_returns
      exact ⟨rfl, HB11.out⟩
    · have q9 : ((L2.length : Int) == 0) = false := beq_eq_false_iff_ne.2 (by omega)
      obtain rfl : off9 = b.size := HO9.out (by intro e; rw [e] at hL0; simp at hL0)
      go_wp2_with fail
      go_returns
      exact ⟨rfl, HB11.out⟩
end fnCompleted
end Go.Proofs.YtmkefndmiagoaaaDoor
