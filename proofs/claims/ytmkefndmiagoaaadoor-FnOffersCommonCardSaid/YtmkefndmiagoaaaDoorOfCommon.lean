/- What all offers have in common, taken on: the same words are offered. Plain. -/
import Derived.Test.YtmkefndmiagoaaaDoorOfLetters
namespace Go.Proofs.YtmkefndmiagoaaaDoor
open Go.RowKit
set_option linter.unusedVariables false
set_option linter.unusedSimpArgs false

theorem IsCommon.congr {Z Z' : Nat → List Int} {m c : Nat} (h : IsCommon Z m c) (hm : 0 < m) (e : ∀ j, j < m → Z j = Z' j) : IsCommon Z' m c := by
  obtain ⟨h1, h2, h3⟩ := h
  have e0 := e 0 hm
  have es : ∀ i j, j < m → (SameAt Z j i ↔ SameAt Z' j i) := fun i j hj => by unfold SameAt; rw [e j hj, e0]
  refine ⟨by rw [← e0]; exact h1, fun i hi j hj => (es i j hj).1 (h2 i hi j hj), ?_⟩
  rcases h3 with h3 | ⟨j, hj, h3⟩
  · exact .inl (by rw [← e0]; exact h3)
  · exact .inr ⟨j, hj, fun h => h3 ((es c j hj).2 h)⟩

theorem runes_take_add (l : List Int) (n S : Nat) : l.take (n + S) = l.take n ++ (l.drop n).take S := by
  rw [List.take_add]

theorem offers_common (ss : List ByteArray) (b : ByteArray) (S : Nat) (hss : Names ss) (hb : IsSmall b) (h2 : 2 ≤ (offs ss b).length) (hS : IsCommon (zsOf (offs ss b)) (offs ss b).length S) :
    ∃ c : ByteArray, runesBytes ((zsOf (offs ss b) 0).take S) = c ∧ IsSmall c ∧ c.size = S ∧ S ≤ 12 ∧ (offs ss (b ++ c)).length = (offs ss b).length ∧ ∀ i, i < (offs ss b).length → txt (offs ss b) i = c ++ txt (offs ss (b ++ c)) i := by
  obtain ⟨F, hF⟩ : ∃ F, F = ss.filter (beg · b) := ⟨_, rfl⟩
  have hL : offs ss b = F.map (left · b) := by rw [hF]; rfl
  have hFm : ∀ i (hi : i < F.length), ∃ j, j < ss.length ∧ F[i] = txt ss j ∧ beg F[i] b = true := fun i hi => by
    have h1 : F[i] ∈ ss.filter (beg · b) := by rw [← hF]; exact List.getElem_mem hi
    obtain ⟨h3, h4⟩ := List.mem_filter.1 h1
    obtain ⟨j, hj, e⟩ := mem_txt ss _ h3
    exact ⟨j, hj, e, h4⟩
  have hFs : ∀ i (hi : i < F.length), IsSmall F[i] ∧ F[i].size ≤ 12 ∧ b.size ≤ F[i].size ∧ (runes F[i]).take b.size = runes b := fun i hi => by
    obtain ⟨j, hj, e, hbg⟩ := hFm i hi
    have hw := hss.word j hj
    rw [← e] at hw
    have := hbg
    rw [beg_runes hw.2.2.ascii hb.ascii, decide_eq_true_iff] at this
    exact ⟨hw.2.2, hw.2.1, this.1, this.2⟩
  have hpw : ss.Pairwise (· ≠ ·) := List.pairwise_iff_getElem.2 fun i j hi hj hij => by
    have := hss.diff i j hij hj
    simpa [txt, hi, hj] using this
  have hFd : ∀ i j (hi : i < F.length) (hj : j < F.length), i < j → F[i] ≠ F[j] := fun i j hi hj hij => by
    have := List.Pairwise.filter (beg · b) hpw
    rw [← hF] at this
    exact List.pairwise_iff_getElem.1 this i j hi hj hij
  have hlen : (offs ss b).length = F.length := by rw [hL, List.length_map]
  rw [hlen] at h2 hS ⊢
  obtain ⟨R, hR⟩ : ∃ R : Nat → List Int, R = fun i => (runes (F.getD i ByteArray.empty)).drop b.size := ⟨_, rfl⟩
  have hRi : ∀ i (hi : i < F.length), R i = (runes F[i]).drop b.size := fun i hi => by rw [hR]; simp [hi]
  have htx : ∀ i (hi : i < F.length), txt (offs ss b) i = left F[i] b := fun i hi => by simp [hL, txt, hi]
  have hz : ∀ i, i < F.length → zsOf (offs ss b) i = R i ++ [32] := fun i hi => by
    unfold zsOf
    rw [htx i hi, left_runes _ _ (hFs i hi).1.ascii, hRi i hi]
  have hS' := hS.congr (by omega) hz
  have hw := common_within R F.length S h2 (fun j hj z hzm => by
    rw [hRi j hj] at hzm
    have := (hFs j hj).1.runes z (List.mem_of_mem_drop hzm)
    omega) (fun e => by
    rw [hRi 0 (by omega), hRi 1 (by omega)] at e
    refine hFd 0 1 (by omega) (by omega) (by omega) (runes_inj (hFs 0 (by omega)).1.ascii (hFs 1 (by omega)).1.ascii ?_)
    rw [← List.take_append_drop b.size (runes F[0]), ← List.take_append_drop b.size (runes F[1]), e, (hFs 0 (by omega)).2.2.2, (hFs 1 (by omega)).2.2.2]) hS'
  have h0 := hFs 0 (by omega)
  have hw0 := (hw 0 (by omega)).1
  rw [hRi 0 (by omega), List.length_drop, runes_ascii_length _ h0.1.ascii] at hw0
  obtain ⟨c, hc⟩ : ∃ c, c = F[0].extract b.size (b.size + S) := ⟨_, rfl⟩
  have hcr : runes c = (R 0).take S := by rw [hc, runes_extract _ h0.1.ascii, hRi 0 (by omega), Nat.add_sub_cancel_left]
  have hcs : IsSmall c := by rw [hc]; exact h0.1.extract _ _
  have hcz : c.size = S := by rw [hc, size_sub _ _ _ (by omega)]; omega
  have hcat : runes (b ++ c) = runes b ++ (R 0).take S := by rw [runes_cat _ _ hb.ascii hcs.ascii, hcr]
  have hbc : (b ++ c).size = b.size + S := by rw [ByteArray.size_append, hcz]
  have hfull : ∀ i (hi : i < F.length), beg F[i] (b ++ c) = true := fun i hi => by
    have hi4 := hFs i hi
    have hwi := hw i hi
    rw [hRi i hi] at hwi
    rw [beg_runes hi4.1.ascii (hb.append hcs).ascii, decide_eq_true_iff, hbc, hcat, runes_take_add, hi4.2.2.2, hwi.2]
    refine ⟨?_, rfl⟩
    have := hwi.1
    rw [List.length_drop, runes_ascii_length _ hi4.1.ascii] at this
    omega
  have hfe : ss.filter (beg · (b ++ c)) = F := by
    rw [hF]
    refine List.filter_congr fun s hs => ?_
    obtain ⟨j, hj, rfl⟩ := mem_txt ss s hs
    have hsm := (hss.word j hj).2.2
    cases hq : beg (txt ss j) b
    · cases hq2 : beg (txt ss j) (b ++ c)
      · rfl
      · exfalso
        rw [beg_runes hsm.ascii (hb.append hcs).ascii, decide_eq_true_iff, hbc, hcat] at hq2
        have : beg (txt ss j) b = true := by
          rw [beg_runes hsm.ascii hb.ascii, decide_eq_true_iff]
          refine ⟨by omega, ?_⟩
          have := congrArg (List.take b.size) hq2.2
          have h1 : (runes b ++ (R 0).take S).take b.size = runes b := by
            rw [List.take_append_of_le_length (by rw [runes_ascii_length b hb.ascii]; exact Nat.le_refl _), List.take_of_length_le (by rw [runes_ascii_length b hb.ascii]; exact Nat.le_refl _)]
          rw [List.take_take, Nat.min_eq_left (by omega), h1] at this
          exact this
        rw [this] at hq; cases hq
    · have hm : txt ss j ∈ F := by rw [hF]; exact List.mem_filter.2 ⟨hs, hq⟩
      obtain ⟨i, hi, e⟩ := List.getElem_of_mem hm
      have := hfull i hi
      rw [e] at this
      exact this
  have hM : offs ss (b ++ c) = F.map (left · (b ++ c)) := by unfold offs; rw [hfe]
  refine ⟨c, ?_, hcs, hcz, by omega, by rw [hM, List.length_map], fun i hi => ?_⟩
  · rw [hz 0 (by omega), List.take_append_of_le_length (by rw [hRi 0 (by omega), List.length_drop, runes_ascii_length _ h0.1.ascii]; omega), ← hcr, bytes_of_runes c hcs.ascii]
  · have hi4 := hFs i hi
    have htm : txt (offs ss (b ++ c)) i = left F[i] (b ++ c) := by simp [hM, txt, hi]
    rw [htx i hi, htm]
    refine runes_inj (left_ascii _ hi4.1.ascii) (hcs.ascii.append (left_ascii _ hi4.1.ascii)) ?_
    rw [runes_cat _ _ hcs.ascii (left_ascii _ hi4.1.ascii), left_runes _ _ hi4.1.ascii, left_runes _ _ hi4.1.ascii, hbc, hcr, ← (hw i hi).2, hRi i hi, ← List.append_assoc, ← List.drop_drop, List.take_append_drop]
end Go.Proofs.YtmkefndmiagoaaaDoor
