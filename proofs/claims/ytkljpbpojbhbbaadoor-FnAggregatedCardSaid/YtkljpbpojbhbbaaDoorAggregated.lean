/- The whole of laws.FnAggregated. -/
import Derived.Test.YtkljpbpojbhbbaaDoorSpecCommon
import Derived.Test.YtkljpbpojbhbbaaDoorRowStrs
namespace Go.Proofs.YtkljpbpojbhbbaaDoor
open Go.RowKit
set_option linter.unusedVariables false
set_option linter.unusedSimpArgs false

theorem encodeRune_le (r : Int) : (Lib.encodeRune r).length ≤ 4 := by
  unfold Lib.encodeRune
  rw [List.length_map]
  unfold Lib.encodeRuneZ
  repeat' split
  all_goals simp

theorem enc_le : ∀ zs : List Int, (enc zs).length ≤ 4 * zs.length
  | [] => by simp [enc_nil]
  | z :: zs => by
    have := encodeRune_le z
    have := enc_le zs
    rw [enc_cons]; simp; omega

theorem runesBytes_size (zs : List Int) : (runesBytes zs).size ≤ 4 * zs.length := by
  have h : (runesBytes zs).size = (enc zs).length := by
    rw [← runesBytes_list, Array.length_toList]; rfl
  rw [h]; exact enc_le zs

theorem ab_common (S : Nat) (h : IsCommon (zsOf [⟨#[97, 98]⟩]) 1 S) : S = 2 := by
  have e : zsOf [⟨#[97, 98]⟩] 0 = [97, 98] := by kernel_rfl
  obtain ⟨h1, _, h3⟩ := h
  rw [e] at h1 h3
  rcases h3 with h3 | ⟨j, hj, h3⟩
  · exact h3
  · obtain rfl : j = 0 := by omega
    unfold SameAt at h3
    rw [e] at h3
    simp at h1 h3
    omega

theorem ab_bytes : runesBytes ((zsOf [⟨#[97, 98]⟩] 0).take 2) = ⟨#[97, 98]⟩ := by kernel_rfl

set_option maxRecDepth 100000 in
theorem fnAggregated.walk {X : Prop} (a : Option Addr) (len cap : Nat) (ss : List ByteArray) (w : World) (hw : ss.length = len ∧ IsStrs w a ss) (_hL : X) :
    Calls Tryd.prog 4 #[.slice a len cap] w fun e w' => e = .returned (.bool true) ∧ Below w.heap.size w w' := by
  obtain ⟨hn, h⟩ := hw
  have hfit : Calls Tryd.prog 14 #[.slice a len cap] w (FitsPost ss w) := by rw [← hn]; exact fits1_any a cap ss w h
  have hwho : ∀ w1, IsStrs w1 a ss → (∀ s ∈ ss, s.size ≤ 2147483647) → len ≤ 2147483647 → Calls Tryd.prog 11 #[.slice a len cap] w1 (AllPost ss w1) := by
    rw [← hn]; exact fun w1 h1 h2 h3 => whole9_any a cap ss w1 h1 h2 h3
  have hagg : ∀ w1, IsStrs w1 a ss → 0 < len → len ≤ 20 → (∀ s ∈ ss, s.size ≤ 300) → Calls Tryd.prog 15 #[.slice a len cap] w1 (ImplAgg ss w1) := by
    rw [← hn]; exact fun w1 h1 h2 h3 h4 => impl_agg a cap ss w1 h1 h2 h3 h4
  have hcom : ∀ w1, IsStrs w1 a ss → 0 < len → len ≤ 20 → (∀ s ∈ ss, s.size ≤ 300) → Calls Tryd.prog 16 #[.slice a len cap] w1 (SpecCo ss w1) := by
    rw [← hn]; exact fun w1 h1 h2 h3 h4 => spec_co a cap ss w1 h1 h2 h3 h4
  have Hn := Go.Lib.hid hn
  have HI := Go.Lib.hid h
  clear hn h
  go_enter Tryd.func4, Tryd.ntmps4
  go_wp2_with fail
  refine hfit.mono ?_
  rintro e w1 ⟨b1, rfl, hf, rfl⟩
  cases b1 with
  | false =>
    go_wp2_with fail
    go_returns
    exact ⟨rfl, Below.refl _ _⟩
  | true =>
  obtain ⟨hl31, hs31⟩ := hf rfl
  rw [Hn.out] at hl31
  clear hf
  have HS31 := Go.Lib.hid hs31
  clear hs31
  by_cases h0 : len = 0
  · have h0' : ((len : Int) == 0) = true := by simp [h0]
    clear h0
    go_wp2_with fail
    go_returns
    exact ⟨rfl, Below.refl _ _⟩
  have h0' : ((len : Int) == 0) = false := by simp [h0]
  by_cases h20 : (20 : Int) < len
  · go_wp2_with fail
    go_returns
    exact ⟨rfl, Below.refl _ _⟩
  go_wp2_with fail
  refine (hwho _ HI.out HS31.out hl31).mono ?_
  rintro e w2 ⟨b2, rfl, hv, hb2⟩
  cases b2 with
  | false =>
    go_wp2_with fail
    go_returns
    exact ⟨rfl, hb2⟩
  | true =>
  have HV := Go.Lib.hid (fun s hs => (hv rfl s hs).1)
  clear hv
  have HI2 := Go.Lib.hid (HI.out.below hb2)
  go_wp2_with fail
  refine (hagg w2 HI2.out (by omega) (by omega) HV.out).mono ?_
  rintro e w3 ⟨S, hS, rfl, hb3⟩
  have hc3 := hb2.trans (hb3.mono hb2.size)
  have HI3 := Go.Lib.hid (HI2.out.below hb3)
  have HSS := Go.Lib.hid hS
  obtain ⟨tx, htx⟩ : ∃ t, t = runesBytes ((zsOf ss 0).take S) := ⟨_, rfl⟩
  rw [← htx]
  have HTX := Go.Lib.hid htx
  clear hS htx
  go_wp2_with fail
  refine (hcom w3 HI3.out (by omega) (by omega) HV.out).mono ?_
  rintro e w4 ⟨S', hS', rfl, hb4⟩
  obtain rfl : S = S' := HSS.out.unique hS'
  clear hS'
  rw [← HTX.out]
  have hc4 := hc3.trans (hb4.mono hc3.size)
  go_wp2_with fail
  refine (impl_agg (some ⟨w4.heap.size, 0, none⟩) 1 [⟨#[97, 98]⟩] _ ?_ (by simp) (by simp) (fun s hs => by
    obtain rfl : s = ⟨#[97, 98]⟩ := by simpa using hs
    decide)).mono ?_
  · refine .inr ⟨_, 0, rfl, by simp, fun i hi => ?_⟩
    obtain rfl : i = 0 := by simpa using hi
    simp [go_sem, txt]
  rintro e w5 ⟨S5, hS5, rfl, hb5⟩
  obtain rfl := ab_common S5 hS5
  rw [ab_bytes]
  have hc5 : Below w1.heap.size w1 w5 := hc4.trans (((Below.refl _ w4).alloc (Nat.le_refl _) _).trans (hb5.mono (by simp)) |>.mono hc4.size)
  clear hS5
  have hS1 : S ≤ (zsOf ss 0).length := HSS.out.1
  have hz : (zsOf ss 0).length ≤ 300 := by
    have h1 := HV.out (txt ss 0) (txt_mem ss 0 (by rw [Hn.out]; omega))
    have h2 := runes_length (txt ss 0)
    unfold zsOf; omega
  have htl : ((zsOf ss 0).take S).length = S := by simp; omega
  have hts : tx.size ≤ 4 * 300 := by rw [HTX.out]; have := runesBytes_size ((zsOf ss 0).take S); omega
  have htr : (runes tx).length = S := by
    rw [HTX.out, runes_bytes ((zsOf ss 0).take S) (fun z hz => runes_scalar (txt ss 0) z (List.mem_of_mem_take hz)), htl]
  have hcv := run_runes (P := Tryd.prog) w5 9 31 21 tx Tryd.underlying9 Tryd.underlying31 Tryd.underlying21 (by omega)
  rw [htr] at hcv
  have hee : ((S : Int) == (S : Int)) = true := by simp
  clear hS1 hz htl hts htr
  go_wp2_with fail
  go_returns
  exact ⟨rfl, hc5.drew.alloc hc5.size _⟩
end Go.Proofs.YtkljpbpojbhbbaaDoor
