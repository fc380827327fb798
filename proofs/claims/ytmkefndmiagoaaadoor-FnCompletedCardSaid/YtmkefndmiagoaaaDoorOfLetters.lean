/- impl.Completed at a line of small letters; laws.FnOffersCommon: the walk. -/
import Derived.Test.YtmkefndmiagoaaaDoorOfComp2
namespace Go.Proofs.YtmkefndmiagoaaaDoor
open Go.RowKit
set_option linter.unusedVariables false
set_option linter.unusedSimpArgs false

theorem offs_ascii {ss : List ByteArray} (hs : ∀ j, j < ss.length → IsSmall (txt ss j)) (b : ByteArray) : ∀ t ∈ offs ss b, IsAscii t := fun t ht => by
  unfold offs at ht
  obtain ⟨s, hs1, rfl⟩ := List.mem_map.1 ht
  obtain ⟨j, hj, rfl⟩ := mem_txt ss s (List.mem_filter.1 hs1).1
  exact left_ascii b (hs j hj).ascii

/-- Completed at words of which some stand beneath one, and a line of small letters. -/
theorem letters_any (ss ks : List ByteArray) (q : Nat) (A : Option Addr) (c : Nat) (b : ByteArray) (w : World) (hw : WordsAt w A (flatW (treeT ss q ks))) (hc : (flatW (treeT ss q ks)).length ≤ c) (hss : Names ss) (hks : Names ks) (hb : IsSmall b) (hbz : b.size ≤ 100) :
    Calls Tryd.prog 10 #[.slice A (flatW (treeT ss q ks)).length c, .string b, .int .i64 (b.size : Nat)] w (CompPost (offs ss b) b.size w) := by
  have h8 := hss.len
  have k8 := hks.len
  have hmem : ∀ t ∈ treeT ss q ks, ∃ j, j < ss.length ∧ t = (txt ss j, if j = q then ks else []) := fun t ht => by
    obtain ⟨j, hj, rfl⟩ := List.getElem_of_mem ht
    rw [treeT_len] at hj
    refine ⟨j, hj, ?_⟩
    have := treeT_at ss q ks j hj
    exact (List.getElem?_eq_some_iff.1 this).2
  refine completed_any (treeT ss q ks) A c b (offs ss b) b.size w hw hc ?_ (fun t ht => ?_) (fun t ht => ?_) hb.ascii hbz (offs_ascii (fun j hj => (hss.word j hj).2.2) b) (by have := offs_len ss b; omega) (fun W D A3 c3 hkd W' pb hbW h3 A c hr hcx orig => ?_)
  · have : ∀ j, (flatW ((treeT ss q ks).take j)).length ≤ j + (if q < j then ks.length else 0) := fun j => by
      induction j with
      | zero => simp [flatW]
      | succ j ih =>
        by_cases hj : j < ss.length
        · rw [treeT_step ss q ks j hj, List.length_append, List.length_cons, List.length_map]
          by_cases e : j = q
          · subst e
            simp only [if_true]
            rw [if_neg (Nat.lt_irrefl _)] at ih
            rw [if_pos (Nat.lt_succ_self _)]
            omega
          · rw [if_neg e]
            simp only [List.length_nil]
            split at ih <;> split <;> omega
        · rw [List.take_of_length_le (by rw [treeT_len]; omega)]
          rw [List.take_of_length_le (by rw [treeT_len]; omega)] at ih
          split at ih <;> split <;> omega
    have h := this ss.length
    rw [List.take_of_length_le (by rw [treeT_len]; exact Nat.le_refl _)] at h
    split at h <;> omega
  · obtain ⟨j, hj, rfl⟩ := hmem t ht
    have := hss.word j hj
    exact ⟨this.2.2, by dsimp only; omega⟩
  · obtain ⟨j, hj, rfl⟩ := hmem t ht
    dsimp only
    split
    · refine ⟨k8, fun k hk => ?_⟩
      obtain ⟨i, hi, rfl⟩ := mem_txt ks k hk
      have := hks.word i hi
      exact ⟨this.2.2, by omega⟩
    · exact ⟨Nat.zero_le _, fun k hk => by simp at hk⟩
  · rw [treeT_len] at h3
    refine do_letters W' W' (Below.refl _ _) pb ss b A c orig ⟨A3, c3, h3, lt_of_cell h3, ?_⟩ h8 (fun j hj => (hss.word j hj).2) hb hbz hr hcx
    rcases hkd.stand (Stand.of hbW D) with e | ⟨b3, o3, ha, _, hb3, hc3⟩
    · refine .inl ?_
      rw [← treeT_len ss q ks, e]; rfl
    · refine .inr ⟨b3, o3, ha, hb3, fun j hj => ?_⟩
      obtain ⟨p, h1, h2⟩ := hc3 j _ (treeT_at ss q ks j hj)
      exact ⟨p, h1, h2.1.named⟩
end Go.Proofs.YtmkefndmiagoaaaDoor
