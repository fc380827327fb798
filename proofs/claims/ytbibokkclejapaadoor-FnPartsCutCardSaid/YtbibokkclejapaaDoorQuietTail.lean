/- A region that draws its order: operations that read and call quietly come up in whatever order, then a tail comes up in the one order that its edges allow: one walk serves. -/
import Derived.StillTail
import Derived.Deep.Quiet
import Derived.Deep.QuietTactic
import Derived.BigQuiet
namespace Go.Proofs.YtbibokkclejapaaDoor
open Go
set_option linter.unusedVariables false
set_option linter.unusedSimpArgs false
section
variable {P : Program} {ops : Array Oper} {md : Region.Mode} {C : World → Prop}

/-- As many operations of the first n come up as the number says, whichever they are; L is left. -/
def HeadQ (P : Program) (md : Region.Mode) (ops : Array Oper) (C : World → Prop) (n : Nat) (L : Array Bool → Act → Prop) : Nat → Array Bool → Act → Prop
  | 0, s, a => L s a
  | f + 1, s, a => Region.ready md ops s ≠ [] ∧ ∀ i ∈ Region.ready md ops s, i < n ∧ qOp P ops C i (HeadQ P md ops C n L f (s.setIfInBounds i true)) a

theorem HeadQ.any {n g : Nat} {L : Array Bool → Act → Prop} {Q : Exit → Act → World → Prop} (hL : ∀ s a w, C w → L s a → wpAny P md ops Q g s a w) :
    ∀ (f : Nat) (s : Array Bool) (a : Act) (w : World), C w → HeadQ P md ops C n L f s a → wpAny P md ops Q (f + g) s a w
  | 0, s, a, w, hw, h => by rw [Nat.zero_add]; exact hL _ _ _ hw h
  | f + 1, s, a, w, hw, h => by
    rw [show f + 1 + g = (f + g) + 1 by omega]
    exact ⟨fun h0 => absurd h0 h.1, fun i hi => wpOp_of_qOp hw (fun a' w' hw' h' => HeadQ.any hL f _ a' w' hw' h') (h.2 i hi).2⟩

/-- An operation of the head that may come up may be thought to come up first. -/
theorem HeadQ.first {n i : Nat} {oi : Oper} {v : Value} {L : Array Bool → Act → Prop} (hi : ops[i]? = some oi) (hsel : ∀ (j : Nat) (o : Oper) cs b, ops[j]? = some o → o.op ≠ .select cs b)
    (hs : Region.sinkB md ops n = true) (hc : Region.chainB md ops n = true) (hn : n < ops.size) (hin : i < n) (hdone : ∀ s a, L s a → ∀ j ∈ Region.ready md ops s, n ≤ j)
    (f : Nat) : ∀ (s : Array Bool) (a : Act), HeadInv md ops n s →
      (∀ j oj, ops[j]? = some oj → j ≠ i → s.getD j true = false → (∀ e ∈ oj.after, Region.binds md e = true → e.on ≠ i) → oi.apart ops oj = true) →
      i ∈ Region.ready md ops s → YieldsIn P ops C oi v a → HeadQ P md ops C n L f (s.setIfInBounds i true) (a.put oi.dst v) → HeadQ P md ops C n L (f + 1) s a := by
  have head : ∀ (s : Array Bool), HeadInv md ops n s → s.getD i true = false → ∀ j ∈ Region.ready md ops s, j < n := fun s inv hu j hj =>
    Nat.lt_of_not_le fun h => tail_waits hs hc hn inv _ i rfl hin hu j h hj
  induction f with
  | zero =>
    intro s a inv _ hr hy H
    refine ⟨fun h => (by rw [h] at hr; cases hr), fun j hj => ⟨head s inv (mem_ready.1 hr).1 j hj, ?_⟩⟩
    by_cases e : j = i
    · subst e; exact hy.qOp hi H
    · exact absurd (hdone _ _ H j (ready_mono hj e)) (by have := head s inv (mem_ready.1 hr).1 j hj; omega)
  | succ f ih =>
    intro s a inv free hr hy H
    have hu := (mem_ready.1 hr).1
    refine ⟨fun h => (by rw [h] at hr; cases hr), fun j hj => ⟨head s inv hu j hj, ?_⟩⟩
    by_cases e : j = i
    · subst e; exact hy.qOp hi H
    · obtain ⟨hju, oj, hoj, hall⟩ := mem_ready.1 hj
      have hno : ∀ e ∈ oj.after, Region.binds md e = true → e.on ≠ i := fun e he hb heq => by
        have h1 := hall e he hb
        rw [heq, getD_both hu] at h1
        cases h1
      have h2 := qOp_put hoj (free j oj hoj e hju hno) (fun cs b => hsel i oi cs b hi) (fun cs b => hsel j oj cs b hoj) hy (H.2 j (ready_mono hj e)).2
      refine qOp_mono (fun a' h3 => ih _ a' (inv.set hj (head s inv hu j hj)) (fun k ok hk hki hk2 hk3 => free k ok hk hki ?_ hk3) (ready_mono hr (Ne.symm e)) h3.1 ?_) h2
      · by_cases ejk : j = k
        · subst ejk; exact hju
        · rwa [getD_set_ne true ejk] at hk2
      · rw [Array.setIfInBounds_comm _ _ e]; exact h3.2

theorem HeadQ.lex {n g : Nat} {K : Act → Prop} (hsel : Region.noSelect ops = true) (hs : Region.sinkB md ops n = true) (hc : Region.chainB md ops n = true) (hn : n < ops.size) :
    ∀ (l : List Oper) (k : Nat) (s : Array Bool) (a : Act), (∀ j, j < l.length → l[j]? = ops[k + j]?) → k + l.length = n → HeadInv md ops n s →
    Region.lexHead md ops g l.length k s = true → wpQuiet P ops C K l a →
    HeadQ P md ops C n (fun s' a' => Region.seqB md ops g n s' = true ∧ K a') l.length s a
  | [], k, s, a, _, hk, _, hB, h => by
    obtain rfl : k = n := by simpa using hk
    exact ⟨by simpa [Region.lexHead] using hB, h⟩
  | o :: l, k, s, a, hl, hk, inv, hB, h => by
    have h0 : ops[k]? = some o := by simpa using (hl 0 (by simp)).symm
    simp only [List.length_cons, Region.lexHead, Bool.and_eq_true] at hB
    obtain ⟨⟨hr, hf⟩, hB'⟩ := hB
    have hkn : k < n := by simp only [List.length_cons] at hk; omega
    have hr' : k ∈ Region.ready md ops s := by simpa using hr
    have hq : qOp P ops C k (wpQuiet P ops C K l) a := by unfold qOp; simp only [h0]; exact h
    obtain ⟨v, hy, hK⟩ := yieldsIn_of_qOp h0 hq
    exact HeadQ.first h0 (Region.noSelect_spec hsel) hs hc hn hkn (fun s' a' hL => seqB_ready hL.1) l.length s a inv (Region.free_spec h0 hf) hr' hy
      (HeadQ.lex hsel hs hc hn l (k + 1) _ _ (fun j hj => by have := hl (j + 1) (by simp; omega); simpa [Nat.add_assoc, Nat.add_comm 1 j] using this) (by simp only [List.length_cons] at hk; omega) (inv.set hr' hkn) hB' hK)
end

/-- The region: n operations that read and call quietly, then the others in their order, in the world behind some draws. -/
theorem region_quiet_tail {P : Program} {id : Nat} {Q : Exit → Act → World → Prop} {a : Act} {w : World} {l : List Oper} (n : Nat) (hm : P.follows .mixedOrders = true) (hB : Region.lexTailB .any l.toArray n = true)
    (h : wpQuiet P l.toArray (fun w' => ∃ n, w' = w.drewN n) (fun a' => ∀ w', (∃ n, w' = w.drewN n) → wpList P l.toArray Q (l.drop n) a' w') (l.take n) a) : (Code.region id l.toArray true).wp P Q a w := by
  simp only [Region.lexTailB, Bool.and_eq_true, decide_eq_true_eq] at hB
  obtain ⟨⟨⟨⟨hsel, hn⟩, hs⟩, hc⟩, hlex⟩ := hB
  have hn' : n < l.length := by simpa using hn
  have htl : (l.take n).length = n := by simp; omega
  have hdl : (l.drop n).length = l.toArray.size - n := by simp
  have inv0 : HeadInv .any l.toArray n (Array.replicate l.toArray.size false) :=
    ⟨by simp, fun j oj _ hl => (by rw [getD_replicate_false] at hl; cases hl), fun t _ ht => getD_in (by simpa using ht) (getD_replicate_false _ _)⟩
  have H := HeadQ.lex (md := .any) (g := l.toArray.size - n) hsel hs hc hn (l.take n) 0 _ a (fun j hj => by
    have hj' : j < n := by rw [htl] at hj; exact hj
    simp [hj']) (by simpa using htl) inv0 (by rw [htl]; exact hlex) h
  refine wp_region_any hm ?_
  have := HeadQ.any (Q := Q) (g := l.toArray.size - n) (fun s a' w' hw' hL => by
    have := wpAny_of_seq (md := .any) (Q' := Q) (l.drop n) n s a' w' (fun j => by simp [List.getElem?_drop]) (by rw [hdl]; exact hL.1) (hL.2 w' hw')
    rwa [hdl] at this) _ _ _ { w with drawn := w.drawn + 1 } ⟨1, rfl⟩ H
  rw [htl, show n + (l.toArray.size - n) = l.toArray.size by omega] at this
  exact this
end Go.Proofs.YtbibokkclejapaaDoor
