/- A region that draws its order: its first n operations come up under a condition on the world, then a tail comes up in the one order that its edges allow, without the condition. -/
import Derived.StillTail
import Derived.Deep.RegionHeld
namespace Go.Proofs.YtbibokkclejapaaDoor
open Go
set_option linter.unusedVariables false
set_option linter.unusedSimpArgs false
section
variable {P : Program} {ops : Array Oper} {md : Region.Mode} {Q : Exit → Act → World → Prop} {S : World → Prop}

/-- As many operations of the first n come up as the number says, S behind each; the rest of the list is left. -/
def HeadH (P : Program) (md : Region.Mode) (ops : Array Oper) (Q : Exit → Act → World → Prop) (S : World → Prop) (n : Nat) : Nat → Array Bool → Act → World → Prop
  | 0, s, a, w => Region.seqB md ops (ops.size - n) n s = true ∧ wpList P ops Q (ops.toList.drop n) a w
  | f + 1, s, a, w => Region.ready md ops s ≠ [] ∧ ∀ i ∈ Region.ready md ops s, i < n ∧ wpOp P ops Q i (fun a' w' => S w' ∧ HeadH P md ops Q S n f (s.setIfInBounds i true) a' w') a w

theorem HeadH.any {n : Nat} (hn : n < ops.size) : ∀ (f : Nat) (s : Array Bool) (a : Act) (w : World), HeadH P md ops Q S n f s a w → wpAny P md ops Q (f + (ops.size - n)) s a w
  | 0, s, a, w, h => by
    have := wpAny_of_seq (md := md) (Q' := Q) (ops.toList.drop n) n s a w (fun j => by simp [List.getElem?_drop]) (by simpa using h.1) h.2
    simpa using this
  | f + 1, s, a, w, h => by
    rw [show f + 1 + (ops.size - n) = (f + (ops.size - n)) + 1 by omega]
    exact ⟨fun h0 => absurd h0 h.1, fun i hi => wpOp_mono (fun a' w' h' => HeadH.any hn f _ a' w' h'.2) (h.2 i hi).2⟩

theorem HeadH.first {n i : Nat} {oi : Oper} {v : Value} (hi : ops[i]? = some oi) (hsel : ∀ (j : Nat) (o : Oper) cs b, ops[j]? = some o → o.op ≠ .select cs b)
    (hs : Region.sinkB md ops n = true) (hc : Region.chainB md ops n = true) (hn : n < ops.size) (hin : i < n) (hQ : ∀ c a w, Q (.panic c) (a.put oi.dst v) w → Q (.panic c) a w)
    (f : Nat) : ∀ (s : Array Bool) (a : Act) (w : World), HeadInv md ops n s →
      (∀ j oj, ops[j]? = some oj → j ≠ i → s.getD j true = false → (∀ e ∈ oj.after, Region.binds md e = true → e.on ≠ i) → oi.apart ops oj = true) →
      i ∈ Region.ready md ops s → YieldsIf P ops S oi v a → S w → HeadH P md ops Q S n f (s.setIfInBounds i true) (a.put oi.dst v) w → HeadH P md ops Q S n (f + 1) s a w := by
  have head : ∀ (s : Array Bool), HeadInv md ops n s → s.getD i true = false → ∀ j ∈ Region.ready md ops s, j < n := fun s inv hu j hj =>
    Nat.lt_of_not_le fun h => tail_waits hs hc hn inv _ i rfl hin hu j h hj
  induction f with
  | zero =>
    intro s a w inv _ hr hy hS H
    refine ⟨fun h => (by rw [h] at hr; cases hr), fun j hj => ⟨head s inv (mem_ready.1 hr).1 j hj, ?_⟩⟩
    by_cases e : j = i
    · subst e; exact hy.wpOp hi hS ⟨hS, H⟩
    · exact absurd (seqB_ready H.1 j (ready_mono hj e)) (by have := head s inv (mem_ready.1 hr).1 j hj; omega)
  | succ f ih =>
    intro s a w inv free hr hy hS H
    have hu := (mem_ready.1 hr).1
    refine ⟨fun h => (by rw [h] at hr; cases hr), fun j hj => ⟨head s inv hu j hj, ?_⟩⟩
    by_cases e : j = i
    · subst e; exact hy.wpOp hi hS ⟨hS, H⟩
    · obtain ⟨hju, oj, hoj, hall⟩ := mem_ready.1 hj
      have hno : ∀ e ∈ oj.after, Region.binds md e = true → e.on ≠ i := fun e he hb heq => by
        have h1 := hall e he hb
        rw [heq, getD_both hu] at h1
        cases h1
      have h2 := wpOp_putIf hoj (free j oj hoj e hju hno) (fun cs b => hsel i oi cs b hi) (fun cs b => hsel j oj cs b hoj) hQ hy (H.2 j (ready_mono hj e)).2
      refine wpOp_mono (fun a' w' h3 => ⟨h3.2.1, ih _ a' w' (inv.set hj (head s inv hu j hj)) (fun k ok hk hki hk2 hk3 => free k ok hk hki ?_ hk3) (ready_mono hr (Ne.symm e)) h3.1 h3.2.1 ?_⟩) h2
      · by_cases ejk : j = k
        · subst ejk; exact hju
        · rwa [getD_set_ne true ejk] at hk2
      · rw [Array.setIfInBounds_comm _ _ e]; exact h3.2.2

/-- What a walk goes through: the head, once it is known that it can be followed by the tail. -/
def HeldT (P : Program) (ops : Array Oper) (Q : Exit → Act → World → Prop) (S : World → Prop) (n f : Nat) (s : Array Bool) (a : Act) (w : World) : Prop :=
  Region.sinkB .any ops n = true → Region.chainB .any ops n = true → n < ops.size → HeadInv .any ops n s → HeadH P .any ops Q S n f s a w

theorem HeldT.take {n i : Nat} {oi : Oper} {v : Value} {f : Nat} {s : Array Bool} {a : Act} {w : World} (hi : ops[i]? = some oi) (hin : decide (i < n) = true)
    (hs : Region.noSelect ops = true) (hf : Region.free .any ops s i = true) (hr : (Region.ready .any ops s).contains i = true)
    (hQ : ∀ c a w, Q (.panic c) (a.put oi.dst v) w → Q (.panic c) a w) (hy : YieldsIf P ops S oi v a) (hS : S w)
    (h : HeldT P ops Q S n f (s.setIfInBounds i true) (a.put oi.dst v) w) : HeldT P ops Q S n (f + 1) s a w := fun h1 h2 h3 inv => by
  have hr' : i ∈ Region.ready .any ops s := by simpa using hr
  have hin' : i < n := of_decide_eq_true hin
  exact HeadH.first hi (Region.noSelect_spec hs) h1 h2 h3 hin' hQ f s a w inv (Region.free_spec hi hf) hr' hy hS (h h1 h2 h3 (inv.set hr' hin'))

/-- One operation alone may come up. -/
theorem HeldT.one {n i : Nat} {o : Oper} {f : Nat} {s : Array Bool} {a : Act} {w : World} (hi : ops[i]? = some o) (hin : decide (i < n) = true) (hr : Region.ready .any ops s = [i])
    (h : ∀ K' : Act → World → Prop, Shut (∀ a w, S w → (S w → HeldT P ops Q S n f (s.setIfInBounds i true) a w) → K' a w) → if Region.wanted o (yielded ops a.tmps) = true then Oper.wp P o a w K' Q else K' (a.put o.dst undef) w) :
    HeldT P ops Q S n (f + 1) s a w := fun h1 h2 h3 inv => by
  have hin' : i < n := of_decide_eq_true hin
  have hm : i ∈ Region.ready .any ops s := by rw [hr]; simp
  refine ⟨by rw [hr]; simp, fun j hj => ?_⟩
  obtain rfl : j = i := by rw [hr] at hj; simpa using hj
  exact ⟨hin', wpOp_step hi (fun K' hK => h K' (fun a w hS hW => hK a w ⟨hS, hW hS h1 h2 h3 (inv.set hm hin')⟩))⟩

/-- Two operations may come up. -/
theorem HeldT.two {n i k : Nat} {o o' : Oper} {f : Nat} {s : Array Bool} {a : Act} {w : World} (hi : ops[i]? = some o) (hk : ops[k]? = some o') (hin : decide (i < n) = true) (hkn : decide (k < n) = true) (hr : Region.ready .any ops s = [i, k])
    (h : ∀ K' : Act → World → Prop, Shut (∀ a w, S w → (S w → HeldT P ops Q S n f (s.setIfInBounds i true) a w) → K' a w) → if Region.wanted o (yielded ops a.tmps) = true then Oper.wp P o a w K' Q else K' (a.put o.dst undef) w)
    (h' : ∀ K' : Act → World → Prop, Shut (∀ a w, S w → (S w → HeldT P ops Q S n f (s.setIfInBounds k true) a w) → K' a w) → if Region.wanted o' (yielded ops a.tmps) = true then Oper.wp P o' a w K' Q else K' (a.put o'.dst undef) w) :
    HeldT P ops Q S n (f + 1) s a w := fun h1 h2 h3 inv => by
  have hin' : i < n := of_decide_eq_true hin
  have hkn' : k < n := of_decide_eq_true hkn
  have hm : i ∈ Region.ready .any ops s := by rw [hr]; simp
  have hm' : k ∈ Region.ready .any ops s := by rw [hr]; simp
  refine ⟨by rw [hr]; simp, fun j hj => ?_⟩
  have : j = i ∨ j = k := by rw [hr] at hj; simpa using hj
  rcases this with e | e
  · subst e
    exact ⟨hin', wpOp_step hi (fun K' hK => h K' (fun a w hS hW => hK a w ⟨hS, hW hS h1 h2 h3 (inv.set hm hin')⟩))⟩
  · subst e
    exact ⟨hkn', wpOp_step hk (fun K' hK => h' K' (fun a w hS hW => hK a w ⟨hS, hW hS h1 h2 h3 (inv.set hm' hkn')⟩))⟩

theorem HeldT.tail {n : Nat} {s : Array Bool} {a : Act} {w : World} {l : List Oper} (hB : Region.seqB .any ops (ops.size - n) n s = true) (hl : ops.toList.drop n = l) (h : wpList P ops Q l a w) : HeldT P ops Q S n 0 s a w :=
  fun _ _ _ _ => ⟨hB, by rw [hl]; exact h⟩
end

theorem region_held_tail {P : Program} {id : Nat} {Q : Exit → Act → World → Prop} {S : World → Prop} {ops : Array Oper} {a : Act} {w : World} (n : Nat) (hm : P.follows .mixedOrders = true)
    (hB : (Region.sinkB .any ops n && Region.chainB .any ops n && decide (n < ops.size)) = true) (hS : S w.drew) (h : S w.drew → HeldT P ops Q S n n (Array.replicate ops.size false) a w.drew) : (Code.region id ops true).wp P Q a w := by
  simp only [Bool.and_eq_true, decide_eq_true_eq] at hB
  obtain ⟨⟨h1, h2⟩, h3⟩ := hB
  have inv0 : HeadInv .any ops n (Array.replicate ops.size false) :=
    ⟨by simp, fun j oj _ hl => (by rw [getD_replicate_false] at hl; cases hl), fun t _ ht => getD_in (by simpa using ht) (getD_replicate_false _ _)⟩
  refine wp_region_any hm ?_
  have := HeadH.any h3 n _ a w.drew (h hS h1 h2 h3 inv0)
  rwa [show n + (ops.size - n) = ops.size by omega] at this
end Go.Proofs.YtbibokkclejapaaDoor
