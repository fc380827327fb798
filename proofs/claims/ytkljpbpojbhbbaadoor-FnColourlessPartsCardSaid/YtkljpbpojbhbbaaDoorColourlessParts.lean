/- The walk of laws.FnColourlessParts: what a text without escapes has around it is as it is by itself. -/
import Derived.Test.YtkljpbpojbhbbaaDoorSpecColourless
import Derived.Test.YtkljpbpojbhbbaaDoorWhole
namespace Go.Proofs.YtkljpbpojbhbbaaDoor
open Go.RowKit
set_option linter.unusedVariables false
set_option linter.unusedSimpArgs false

theorem colF_append : ∀ (P S : List Int), (∀ z ∈ P, z ≠ 27) → colF (P ++ S) = (colF S).map (P ++ ·)
  | [], S, _ => by simp
  | z :: P, S, h => by
    rw [List.cons_append, colF_other z _ (h z (by simp)), colF_append P S fun x hx => h x (by simp [hx])]
    cases colF S <;> simp

theorem enc_drop_le (l : List Int) (k : Nat) : (enc (l.drop k)).length ≤ (enc l).length := by
  have h := congrArg List.length (enc_append (l.take k) (l.drop k))
  rw [List.take_append_drop, List.length_append] at h
  omega

theorem colf_le : ∀ (n : Nat) (l F : List Int), colf n l = some F → (enc F).length ≤ (enc l).length ∧ ∀ z ∈ F, z ∈ l
  | 0, l, F, h => by
    simp [colf] at h; subst h; exact ⟨by simp [enc], by simp⟩
  | n + 1, [], F, h => by
    simp [colf] at h; subst h; exact ⟨by simp [enc], by simp⟩
  | n + 1, z :: t, F, h => by
    have ih := colf_le n
    have keep : ∀ l G, (colf n l).map (z :: ·) = some G → l = t → (enc G).length ≤ (enc (z :: t)).length ∧ ∀ x ∈ G, x ∈ z :: t := by
      intro l G hG hl
      subst hl
      obtain ⟨G', hG', rfl⟩ := Option.map_eq_some_iff.1 hG
      have hi := ih l G' hG'
      rw [enc_cons, enc_cons, List.length_append, List.length_append]
      refine ⟨by omega, fun x hx => ?_⟩
      rcases List.mem_cons.1 hx with rfl | hx
      · simp
      · simp [hi.2 x hx]
    have shrink : ∀ l, colf n l = some F → (enc l).length ≤ (enc (z :: t)).length → (∀ x ∈ l, x ∈ z :: t) → (enc F).length ≤ (enc (z :: t)).length ∧ ∀ x ∈ F, x ∈ z :: t := by
      intro l hl h1 h2
      have hi := ih l F hl
      exact ⟨by omega, fun x hx => h2 x (hi.2 x hx)⟩
    unfold colf at h
    by_cases hz : z = 27
    · rw [if_pos hz] at h
      match t, h, keep, shrink with
      | [], h, _, _ => cases h
      | y :: u, h, keep, shrink =>
        simp only at h
        by_cases hy : y = 91
        · rw [if_pos hy] at h
          by_cases hf : firstFrom u 109 0 = -1
          · rw [if_pos hf] at h
            exact shrink _ h (by rw [enc_cons z, List.length_append]; omega) (fun x hx => by simp at hx ⊢; exact .inr hx)
          · rw [if_neg hf] at h
            refine shrink _ h ?_ (fun x hx => by have := List.mem_of_mem_drop hx; simp [this])
            have := enc_drop_le u ((firstFrom u 109 0).toNat + 1)
            rw [enc_cons, enc_cons, List.length_append, List.length_append]
            omega
        · rw [if_neg hy] at h
          exact keep _ _ h rfl
    · rw [if_neg hz] at h
      exact keep _ _ h rfl

theorem runes_append (p s : ByteArray) (hp : Valid p) : runes (p ++ s) = runes p ++ runes s := by
  rw [runes_L (p ++ s), ByteArray.toList_data_append, ← enc_runes p hp, runesL_enc _ _ (runes_scalar p), ← runes_L]

theorem bytes_ext {a b : ByteArray} (h : a.data.toList = b.data.toList) : a = b := by
  cases a; cases b; simp at h; simp [h]

theorem bytes_append (p : ByteArray) (F : List Int) (hp : Valid p) : runesBytes (runes p ++ F) = p ++ runesBytes F :=
  bytes_ext (by rw [runesBytes_list, ByteArray.toList_data_append, runesBytes_list, enc_append, enc_runes p hp])

theorem no_escape (p : ByteArray) (hp : Valid p) (h : ∀ (i : Nat) (hi : i < p.size), (p[i]'hi).toNat ≠ 27) : ∀ z ∈ runes p, z ≠ 27 := by
  rintro z hz rfl
  have h27 : (27 : UInt8) ∈ enc (runes p) := List.mem_flatMap.2 ⟨27, hz, by decide⟩
  rw [enc_runes p hp] at h27
  obtain ⟨i, hi, he⟩ := List.getElem_of_mem h27
  have hi' : i < p.size := by simpa using hi
  refine h i hi' ?_
  have : p[i]'hi' = 27 := by rw [← he]; simp; rfl
  rw [this]; rfl

namespace fnColourlessParts
theorem walk (s p : ByteArray) (w : World) (hs : s.size ≤ maxLen) (hp : p.size ≤ maxLen) {X : Prop} (_hL : X) :
    Calls Tryd.prog 3 #[.string s, .string p] w fun e w' => e = .returned (.bool true) ∧ Below w.heap.size w w' := by
  unfold maxLen at hs hp
  by_cases h1 : 2147483647 < (s.size : Int)
  · go_enter Tryd.func3, Tryd.ntmps3
    go_wp2_with fail
    go_returns
    exact ⟨rfl, Below.refl _ _⟩
  by_cases h2 : 2147483647 < (p.size : Int)
  · go_enter Tryd.func3, Tryd.ntmps3
    go_wp2_with fail
    go_returns
    exact ⟨rfl, Below.refl _ _⟩
  go_enter Tryd.func3, Tryd.ntmps3
  go_wp2_with fail
  refine (whole9_any (some ⟨w.heap.size, 0, none⟩) 2 [s, p] _ (.inr ⟨w.heap.size, 0, rfl, by simp, fun i hi => ?_⟩) ?_ ?_).mono ?_
  · match i, hi with
    | 0, _ => simp [txt, go_sem]
    | 1, _ => simp [txt, go_sem]
    | i + 2, h => simp at h; omega
  · simp; omega
  · simp
  rintro e w1 ⟨b, rfl, hv, b1⟩
  have HV := Go.Lib.hid hv
  clear hv
  have hb1 : Below w.heap.size w w1 := ((Below.refl _ _).alloc (Nat.le_refl _) _).trans (b1.mono (by simp))
  clear b1
  cases b with
  | false =>
    go_wp2_with fail
    go_returns
    exact ⟨rfl, hb1⟩
  | true =>
    by_cases h3 : (300 : Int) < (s.size : Int) + p.size
    · go_wp2_with fail
      go_returns
      exact ⟨rfl, hb1⟩
    go_wp2_with fail
    go_loop [37] (fun i => ∃ k : Nat, k ≤ p.size ∧ i = .int .i64 k ∧ Hid (∀ (j : Nat) (hj : j < p.size), j < k → (p[j]'hj).toNat ≠ 27)) (fun i => p.size - (intOf i).toNat)
    case atStart => exact ⟨0, Nat.zero_le _, rfl, fun j hj h => by omega⟩
    case round =>
      obtain ⟨k, hk, rfl, HN⟩ := hrel
      by_cases hlt : k < p.size
      · by_cases c1 : (p[k].toNat : Int) = 27
        · have c1' : ((p[k].toNat : Int) == 27) = true := by simp [c1]
          clear c1
          go_wp2_with fail
          go_returns
          exact ⟨rfl, hb1⟩
        · have c1' : ((p[k].toNat : Int) == 27) = false := by simpa using c1
          have C1 := Go.Lib.hid c1
          clear c1
          by_cases c2 : (p[k].toNat : Int) = 109
          · have c2' : ((p[k].toNat : Int) == 109) = true := by simp [c2]
            clear c2
            go_wp2_with fail
            go_returns
            exact ⟨rfl, hb1⟩
          · have c2' : ((p[k].toNat : Int) == 109) = false := by simpa using c2
            clear c2
            go_wp2_with fail
            go_round
            case rel => exact ⟨k + 1, by omega, by go_num, fun j hj h => by
              by_cases e : j < k
              · exact HN.out j hj e
              · obtain rfl : j = k := by omega
                intro e; exact C1.out (by omega)⟩
            case measure => simp [intOf]; omega
      · have hvs : Valid s := (HV.out (by trivial) s (by simp)).2
        have hvp : Valid p := (HV.out (by trivial) p (by simp)).2
        have hno : ∀ z ∈ runes p, z ≠ 27 := no_escape p hvp fun i hi => HN.out i hi (by omega)
        have happ := colF_append (runes p) (runes s) hno
        rw [← runes_append p s hvp] at happ
        have hes : (enc (runes s)).length = s.size := by rw [enc_runes s hvs]; simp
        have HAPP := Go.Lib.hid happ
        have HES := Go.Lib.hid hes
        have HVP := Go.Lib.hid hvp
        clear hvs hno happ hes hvp HN HV
        go_wp2_with fail
        refine (spec_cl s w1 (by omega)).mono ?_
        rintro e w2 (⟨F, hF, rfl, hb2⟩ | ⟨hF, rfl, hb2⟩)
        · have HF := Go.Lib.hid hF
          clear hF
          have hFe : (enc F).length ≤ s.size ∧ ∀ z ∈ F, Scalar z := by
            have := colf_le _ _ _ HF.out
            rw [HES.out] at this
            exact ⟨this.1, fun z hz => runes_scalar s z (this.2 z hz)⟩
          have ha : (runesBytes F).size ≤ s.size := by
            have : (runesBytes F).size = (enc F).length := by rw [← runesBytes_list]; simp
            omega
          have hra : runes (runesBytes F) = F := runes_bytes F hFe.2
          have HRA := Go.Lib.hid hra
          clear hra hFe
          have hb12 := hb1.trans (hb2.mono hb1.size)
          clear hb2
          go_wp2_with fail
          refine (impl_cl s w2 (by omega)).mono ?_
          rintro e w3 (⟨F', hF', rfl, hb3⟩ | ⟨hF', _⟩)
          · obtain rfl : F = F' := by have := HF.out; rw [hF'] at this; cases this; rfl
            clear hF'
            have hb13 := hb12.trans (hb3.mono hb12.size)
            clear hb3
            go_wp2_with fail
            refine (impl_cl (p ++ s) w3 (by simp; omega)).mono ?_
            rintro e w4 (⟨F', hF', rfl, hb4⟩ | ⟨hF', _⟩)
            · obtain rfl : F' = runes p ++ F := by have := HAPP.out; rw [HF.out, hF'] at this; simpa using this
              clear hF'
              rw [bytes_append p F HVP.out]
              have hb14 := hb13.trans (hb4.mono hb13.size)
              clear hb4
              go_wp2_with fail
              refine (impl_cl (runesBytes F) w4 (by omega)).mono ?_
              rintro e w5 (⟨F', hF', rfl, hb5⟩ | ⟨hF', rfl, hb5⟩)
              · have hle : ((runesBytes F').size : Int) ≤ ((runesBytes F).size : Int) := by
                  rw [HRA.out] at hF'
                  have := (colf_le _ _ _ hF').1
                  rw [← runesBytes_list, ← runesBytes_list] at this
                  simpa using this
                clear hF'
                go_wp2_with fail
                go_returns
                exact ⟨rfl, hb14.trans (hb5.mono hb14.size)⟩
              · clear hF'
                go_wp2_with fail
                go_returns
                exact ⟨rfl, hb14.trans (hb5.mono hb14.size)⟩
            · have := HAPP.out; rw [HF.out, hF'] at this; cases this
          · have := HF.out; rw [hF'] at this; cases this
        · clear hF
          go_wp2_with fail
          go_returns
          exact ⟨rfl, hb1.trans (hb2.mono hb1.size)⟩
end fnColourlessParts
end Go.Proofs.YtkljpbpojbhbbaaDoor
