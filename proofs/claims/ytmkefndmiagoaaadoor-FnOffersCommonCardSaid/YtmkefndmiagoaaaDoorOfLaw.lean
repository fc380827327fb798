/- laws.FnOffersCommon: the walk. -/
import Derived.Test.YtmkefndmiagoaaaDoorOfCommon
import Derived.Test.YtmkefndmiagoaaaDoorRowStrs
namespace Go.Proofs.YtmkefndmiagoaaaDoor
open Go.RowKit
set_option linter.unusedVariables false
set_option linter.unusedSimpArgs false

theorem Names.nil : Names [] := ⟨Nat.zero_le _, fun j hj => by simp at hj, fun i j _ hj => by simp at hj⟩

namespace fnOffersCommon
set_option maxRecDepth 100000 in
set_option maxHeartbeats 4000000 in
theorem walk (a : Option Addr) (len cap : Nat) (ss : List ByteArray) (b : ByteArray) (w : World) (w0 : ss.length = len ∧ IsStrs w a ss) (_hb : b.size ≤ maxLen) {X : Prop} (_hL : X) :
    Calls Tryd.prog 4 #[.slice a len cap, .string b] w fun e w' => e = .returned (.bool true) ∧ Below w.heap.size w w' := by
  obtain ⟨rfl, h⟩ := w0
  have HH := Go.Lib.hid h
  have HF := Go.Lib.hid (fits1_any a cap ss w h)
  have HNM := Go.Lib.hid fun W h1 h2 h3 => names_any a cap ss W h1 h2 h3
  have HOF := Go.Lib.hid fun W h1 h2 h3 h4 => offers_any a cap ss b W h1 h2 h3 h4
  have HTR := Go.Lib.hid fun W h1 h2 h3 h4 h5 => tree_any a none cap 0 ss [] 0 W h1 h2 h3 h4 h5
  clear h _hb
  obtain ⟨n, hn⟩ : ∃ n, n = ss.length := ⟨_, rfl⟩
  have HN := Go.Lib.hid hn
  rw [← hn] at HF HNM HOF HTR ⊢
  clear hn
  go_enter Tryd.func4, Tryd.ntmps4
  go_wp2_with fail
  refine HF.out.mono ?_
  rintro e w1 ⟨r, rfl, hr, hw1⟩
  have hw1' := hw1.symm
  subst hw1'
  clear hw1
  have HFT := Go.Lib.hid hr
  clear hr
  cases r
  · go_wp2_with fail
    go_returns
    exact ⟨rfl, Below.refl _ _⟩
  have HFS := Go.Lib.hid (HFT.out rfl)
  clear HFT HF
  by_cases hbl : (2147483647 : Int) < b.size
  · go_wp2_with fail
    go_returns
    exact ⟨rfl, Below.refl _ _⟩
  go_wp2_with fail
  refine (HNM.out _ HH.out HFS.out.2 (by have := HFS.out.1; rw [← HN.out] at this; exact this)).mono ?_
  rintro e w2 ⟨r, rfl, hr, b2⟩
  have HNT := Go.Lib.hid hr
  have HB2 := Go.Lib.hid b2
  clear hr b2 HNM
  cases r
  · go_wp2_with fail
    go_returns
    exact ⟨rfl, HB2.out⟩
  have HNS := Go.Lib.hid (HNT.out (by trivial))
  clear HNT
  by_cases h0 : n = 0
  · have q : ((n : Int) == 0) = true := by simp [h0]
    go_wp2_with fail
    go_returns
    exact ⟨rfl, HB2.out⟩
  have q : ((n : Int) == 0) = false := by simp; omega
  by_cases h12 : (12 : Int) < b.size
  · go_wp2_with fail
    go_returns
    exact ⟨rfl, HB2.out⟩
  go_wp2_with fail
  refine (small_any b w2 (by omega)).mono ?_
  rintro e w3 ⟨r, rfl, hr, rfl⟩
  have HST := Go.Lib.hid hr
  clear hr
  cases r
  · go_wp2_with fail
    go_returns
    exact ⟨rfl, HB2.out⟩
  have HSM := Go.Lib.hid (HST.out (by trivial))
  clear HST
  have hn8 : n ≤ 8 := by rw [HN.out]; exact HNS.out.len
  go_wp2_with fail
  refine (HOF.out _ (HH.out.below HB2.out) hn8 (fun j hj => (HNS.out.word j (by rw [← HN.out]; exact hj)).2.1) (by omega)).mono ?_
  rintro e w3 ⟨A3, c3, rfl, hst3, b3⟩
  have HB3 : Hid (Below w.heap.size w w3) := HB2.out.trans (b3.mono HB2.out.size)
  clear hst3 b3 HOF
  by_cases h2 : (offs ss b).length < 2
  · have q2 : ((offs ss b).length : Int) < 2 := by omega
    go_wp2_with fail
    go_returns
    exact ⟨rfl, HB3.out⟩
  have q2 : ¬ ((offs ss b).length : Int) < 2 := by omega
  go_wp2_with fail
  refine (HTR.out _ (HH.out.below HB3.out) (.inl rfl) hn8 (Nat.zero_le _) (by omega)).mono ?_
  rintro e w4 ⟨A4, c4, rfl, hw4, hc4, b4⟩
  have HB4 : Hid (Below w.heap.size w w4) := HB3.out.trans (b4.mono HB3.out.size)
  have HW4 := Go.Lib.hid hw4
  have HL8 : Hid ((offs ss b).length ≤ 8) := by have := offs_len ss b; have h := HNS.out.len; show _ ≤ 8; omega
  have HCO := Go.Lib.hid fun (x : ByteArray) (W : World) (h1 : WordsAt W A4 (flatW (treeT ss 0 []))) (h2 : IsSmall x) (h3 : x.size ≤ 100) => letters_any ss [] 0 A4 c4 x W h1 hc4 HNS.out Names.nil h2 h3
  have HCM := Go.Lib.hid fun S h => offers_common ss b S HNS.out HSM.out (by omega) h
  have HAS := Go.Lib.hid (offs_ascii (ss := ss) (fun j hj => (HNS.out.word j hj).2.2) b)
  have HLS : Hid (∀ s ∈ offs ss b, s.size ≤ 300) := fun s hs => by
    unfold offs at hs
    obtain ⟨t, ht, rfl⟩ := List.mem_map.1 hs
    obtain ⟨j, hj, rfl⟩ := mem_txt ss t (List.mem_filter.1 ht).1
    have := (HNS.out.word j hj).2.1
    rw [left_size]; omega
  generalize (flatW (treeT ss 0 [])).length = k4 at hc4 HCO ⊢
  clear hw4 b4 HTR hc4
  go_wp2_with fail
  refine (HCO.out b w4 HW4.out HSM.out (by omega)).mono ?_
  rintro e w5 ⟨A5, c5, off5, rfl, ho5, hst5, b5⟩
  have HB5 : Hid (Below w.heap.size w w5) := HB4.out.trans (b5.mono HB4.out.size)
  have HW5 := Go.Lib.hid (HW4.out.below b5)
  have HS5 := Go.Lib.hid hst5
  clear ho5 hst5 b5
  obtain ⟨L, hL⟩ : ∃ L, L = offs ss b := ⟨_, rfl⟩
  rw [← hL] at h2 HL8 HCM HAS HLS HS5 q2 ⊢
  have HLL := Go.Lib.hid hL
  clear hL
  go_wp2_with fail
  refine (impl_agg A5 c5 L w5 HS5.out (by omega) (by have := HL8.out; omega) HLS.out).mono ?_
  rintro e w6 ⟨S, hS, rfl, b6⟩
  obtain ⟨c, hcr, hcs, hcz, hS12, hlen, htx⟩ := HCM.out S hS
  rw [hcr]
  have HB6 : Hid (Below w.heap.size w w6) := HB5.out.trans (b6.mono HB5.out.size)
  have HS6 := Go.Lib.hid (HS5.out.below b6)
  have HCS := Go.Lib.hid hcs
  have HTX := Go.Lib.hid htx
  have HLEN := Go.Lib.hid hlen
  have HCA := Go.Lib.hid (HCO.out (b ++ c) w6 (HW5.out.below b6) (HSM.out.append hcs) (by rw [ByteArray.size_append]; omega))
  have HBC : Hid ((b ++ c).size = b.size + c.size) := ByteArray.size_append
  clear hcr hcs hlen htx hS b6 HCM HCO
  subst hcz
  obtain ⟨x, hx⟩ : ∃ x, x = b ++ c := ⟨_, rfl⟩
  rw [← hx] at HCA HTX HLEN HBC
  have HXX := Go.Lib.hid hx
  have hcat : (9223372036854775807 < b.size + c.size) = False := by simp; omega
  have hxe : b ++ c = x := hx.symm
  clear hx
  go_wp2_with fail
  refine HCA.out.mono ?_
  rintro e w7 ⟨A7, c7, off7, rfl, ho7, hst7, b7⟩
  have HB7 : Hid (Below w.heap.size w w7) := HB6.out.trans (b7.mono HB6.out.size)
  have HS7 := Go.Lib.hid (HS6.out.below b7)
  have HT7 := Go.Lib.hid hst7
  have hl2 : 2 ≤ L.length := by omega
  obtain rfl : off7 = x.size := ho7 (fun e => by have h := HLEN.out; rw [e] at h; simp at h; omega)
  obtain ⟨M, hM⟩ : ∃ M, M = offs ss x := ⟨_, rfl⟩
  rw [← hM] at HTX HLEN HT7 ⊢
  have q5 : ((M.length : Int) != L.length) = false := by have := HLEN.out; simp; omega
  have HMS : Hid (∀ i, i < L.length → (txt M i).size ≤ 1000) := fun i hi => by
    have h1 := HLS.out (txt L i) (txt_mem L i hi)
    have h2 := HTX.out i hi
    rw [h2, ByteArray.size_append] at h1
    omega
  clear b7 hst7 ho7 hM HCA hcat
  have hL8 : L.length ≤ 8 := HL8.out
  go_wp2_with fail
  go_loopw [104] (fun i wr => ∃ j : Nat, j ≤ L.length ∧ i = .int .i64 j ∧ Hid (Below w.heap.size w wr) ∧ Hid (Below w7.heap.size w7 wr)) (fun i _ => L.length - (intOf i).toNat)
  case atStart => exact ⟨0, Nat.zero_le _, rfl, HB7.out, Below.refl _ _⟩
  case round =>
    obtain ⟨j, hj, rfl, HB, HW⟩ := hrel
    by_cases hlt : j < L.length
    · rcases HS7.out.below HW.out with e | ⟨g, o, rfl, hg, hc⟩
      · rw [e] at hlt; simp at hlt
      rcases HT7.out.below HW.out with e | ⟨g2, o2, rfl, hg2, hc2⟩
      · have := HLEN.out; rw [e] at this; simp at this; omega
      have d1 := hc j hlt
      have d2 := hc2 j (by rw [HLEN.out]; exact hlt)
      have htx := HTX.out j hlt
      have hms := HMS.out j hlt
      generalize txt L j = s at d1 htx
      generalize txt M j = t at d2 htx hms
      have hq : (s.toList == (c ++ t).toList) = true := by rw [htx]; simp
      have hcat2 : (9223372036854775807 < c.size + t.size) = False := by simp; omega
      have hj0 : (0 : Int) ≤ j := by omega
      have hj1 : (j : Int) < L.length := by omega
      have hj2 : (j : Int) < M.length := by have := HLEN.out; omega
      clear hc hc2 htx hms
      go_wp2_with fail
      go_quiet (fail)
      have HBN : Hid (Below w.heap.size w (wr.drewN nq)) := below_drewN HB.out _
      have HWN : Hid (Below w7.heap.size w7 (wr.drewN nq)) := below_drewN HW.out _
      go_wp2_with fail
      go_roundw
      case rel => exact ⟨j + 1, by omega, by go_num, HBN.out, HWN.out⟩
      case measure => simp [intOf]; omega
    · go_wp2_with fail
      go_returns
      exact ⟨rfl, HB.out⟩
end fnOffersCommon
end Go.Proofs.YtmkefndmiagoaaaDoor
