/- impl.Completed at a word, blanks, and what is begun behind them. -/
import Derived.Test.YtmkefndmiagoaaaDoorOfBlank
namespace Go.Proofs.YtmkefndmiagoaaaDoor
open Go.RowKit
set_option linter.unusedVariables false
set_option linter.unusedSimpArgs false

/-- Completed at a word, blanks, and what is begun behind them. -/
theorem blanks_any (ss ks : List ByteArray) (q : Nat) (A : Option Addr) (c : Nat) (s b x : ByteArray) (k0 : Nat) (w : World) (hw : WordsAt w A (flatW (treeT ss q ks))) (hc : (flatW (treeT ss q ks)).length ≤ c) (hss : Names ss) (hks : Names ks) (hq : q < ss.length) (hsq : txt ss q = s) (hl2 : Line2 s b x k0) (hxz : x.size ≤ 100) :
    Calls Tryd.prog 10 #[.slice A (flatW (treeT ss q ks)).length c, .string x, .int .i64 (x.size : Nat)] w (CompPost (offs ks b) b.size w) := by
  have h8 := hss.len
  have k8 := hks.len
  have hmem : ∀ t ∈ treeT ss q ks, ∃ j, j < ss.length ∧ t = (txt ss j, if j = q then ks else []) := fun t ht => by
    obtain ⟨j, hj, rfl⟩ := List.getElem_of_mem ht
    rw [treeT_len] at hj
    refine ⟨j, hj, ?_⟩
    have := treeT_at ss q ks j hj
    exact (List.getElem?_eq_some_iff.1 this).2
  refine completed_any (treeT ss q ks) A c x (offs ks b) b.size w hw hc ?_ (fun t ht => ?_) (fun t ht => ?_) hl2.ascii hxz (offs_ascii (fun j hj => (hks.word j hj).2.2) b) (by have := offs_len ks b; omega) (fun W D A3 c3 hkd W' pb hbW h3 A c hr hcx orig => ?_)
  · have : ∀ j, (flatW ((treeT ss q ks).take j)).length ≤ j + (if q < j then ks.length else 0) := fun j => by
      induction j with
      | zero => simp [flatW]
      | succ j ih =>
        by_cases hj : j < ss.length
        · rw [treeT_step ss q ks j hj, List.length_append, List.length_cons, List.length_map]
          by_cases e : j = q
          · subst e
            simp only [if_true]
            rw [if_neg (Nat.lt_irrefl _)] at ih
            rw [if_pos (Nat.lt_succ_self _)]
            omega
          · rw [if_neg e]
            simp only [List.length_nil]
            split at ih <;> split <;> omega
        · rw [List.take_of_length_le (by rw [treeT_len]; omega)]
          rw [List.take_of_length_le (by rw [treeT_len]; omega)] at ih
          split at ih <;> split <;> omega
    have h := this ss.length
    rw [List.take_of_length_le (by rw [treeT_len]; exact Nat.le_refl _)] at h
    split at h <;> omega
  · obtain ⟨j, hj, rfl⟩ := hmem t ht
    have := hss.word j hj
    exact ⟨this.2.2, by dsimp only; omega⟩
  · obtain ⟨j, hj, rfl⟩ := hmem t ht
    dsimp only
    split
    · refine ⟨k8, fun k hk => ?_⟩
      obtain ⟨i, hi, rfl⟩ := mem_txt ks k hk
      have := hks.word i hi
      exact ⟨this.2.2, by omega⟩
    · exact ⟨Nat.zero_le _, fun k hk => by simp at hk⟩
  · rw [treeT_len] at h3
    rcases hkd.stand (Stand.of hbW D) with e | ⟨b3, o3, ha, _, hb3, hc3⟩
    · have := treeT_len ss q ks
      rw [e] at this
      simp at this
      omega
    · obtain ⟨pq, hcpq, hnq⟩ := hc3 q _ (treeT_at ss q ks q hq)
      rw [if_pos rfl] at hnq
      obtain ⟨_, hpz, _, A5, c5, hc5, hlv⟩ := hnq
      refine do_blanks W' W' (Below.refl _ _) pb q pq ss ks s b x k0 A c orig ⟨A3, c3, h3, lt_of_cell h3, .inr ⟨b3, o3, ha, hb3, fun j hj => ?_⟩⟩ h8 (fun j hj => (hss.word j hj).2) hq hsq (fun j hj hne => ?_) ⟨A3, c3, h3, b3, o3, ha, hcpq⟩ ⟨A5, c5, hc5, hpz, ?_⟩ k8 (fun j hj => (hks.word j hj).2) hl2 hxz hr hcx
      · obtain ⟨p, h1, h2⟩ := hc3 j _ (treeT_at ss q ks j hj)
        exact ⟨p, h1, h2.1.named⟩
      · rw [← hsq]
        rcases Nat.lt_or_gt_of_ne hne with h | h
        · exact hss.diff j q h hq
        · exact fun e => hss.diff q j h hj e.symm
      · rcases hlv with e | ⟨b4, o4, ha4, _, hb4, hc4⟩
        · exact .inl (by dsimp only at e; rw [e]; rfl)
        · refine .inr ⟨b4, o4, ha4, hb4, fun j hj => ?_⟩
          obtain ⟨p, h1, h2⟩ := hc4 j hj
          exact ⟨p, h1, h2.named⟩
end Go.Proofs.YtmkefndmiagoaaaDoor
