/- A region that draws its order: n quiet operations come up in whatever order; all others wait for each of these; what follows is walked order by order. -/
import Derived.Test.YtbibokkclejapaaDoorQuietTail
import Derived.Test.YtbibokkclejapaaDoorHeldTail
namespace Go.Proofs.YtbibokkclejapaaDoor
open Go
set_option linter.unusedVariables false
set_option linter.unusedSimpArgs false
section
variable {P : Program} {ops : Array Oper} {md : Region.Mode} {C : World → Prop}

def allB (md : Region.Mode) (ops : Array Oper) (n : Nat) : Bool := (List.range ops.size).all fun t => decide (t < n) || ((List.range n).all fun i => Region.waitsFor md ops t i) || ((List.range t).any fun u => decide (n ≤ u) && Region.waitsFor md ops t u) || (t == n && Region.sinkB md ops n)
theorem wait_one {t i : Nat} {s : Array Bool} (h : Region.waitsFor md ops t i = true) (hu : s.getD i true = false) : t ∉ Region.ready md ops s := fun hr => by
  obtain ⟨_, ot, hot, hall⟩ := mem_ready.1 hr
  obtain ⟨o', ho', e, he, hb2, hon⟩ := Region.waitsFor_spec h
  have : o' = ot := Option.some.inj (ho'.symm.trans hot)
  subst this
  have h2 := hall e he hb2
  rw [hon, getD_both hu] at h2
  cases h2
theorem sink_waits {n : Nat} {listed : Array Bool} (hs : Region.sinkB md ops n = true) (inv : HeadInv md ops n listed) :
    ∀ (d i : Nat), n - i = d → i < n → listed.getD i true = false → n ∉ Region.ready md ops listed := by
  intro d
  induction d using Nat.strongRecOn with
  | _ d ih =>
    intro i hd hi hun hr
    obtain ⟨_, ot, hot, hall⟩ := mem_ready.1 hr
    have htlt : n < ops.size := (Array.getElem?_eq_some_iff.1 hot).1
    have h1 := List.all_eq_true.1 hs i (List.mem_range.2 hi)
    obtain ⟨j, hj, hj2⟩ := List.any_eq_true.1 h1
    simp only [Bool.and_eq_true, decide_eq_true_eq] at hj2
    have hjle : j ≤ n := by have := List.mem_range.1 hj; omega
    by_cases hjt : j = n
    · subst hjt
      exact wait_one hj2.2 hun hr
    · obtain ⟨oj, hoj, e, he, hb, hon⟩ := Region.waitsFor_spec hj2.2
      cases hl : listed.getD j false with
      | true =>
        have h2 := inv.closed j oj hoj hl e he hb
        rw [hon, getD_both hun] at h2
        cases h2
      | false =>
        have hjs : j < listed.size := by rw [inv.size]; omega
        exact ih (n - j) (by omega) j rfl (by omega) (getD_in hjs hl) hr
theorem all_waits {n i t : Nat} {s : Array Bool} (hb : allB md ops n = true) (inv : HeadInv md ops n s) (hi : i < n) (hu : s.getD i true = false) (ht : n ≤ t) : t ∉ Region.ready md ops s := fun hr => by
  obtain ⟨_, ot, hot, _⟩ := mem_ready.1 hr
  have htlt : t < ops.size := (Array.getElem?_eq_some_iff.1 hot).1
  have h1 := List.all_eq_true.1 hb t (List.mem_range.2 htlt)
  simp only [Bool.or_eq_true, decide_eq_true_eq] at h1
  rcases h1 with ((h1 | h1) | h1) | h1
  · omega
  · exact wait_one (List.all_eq_true.1 h1 i (List.mem_range.2 hi)) hu hr
  · obtain ⟨u, hu2, hu3⟩ := List.any_eq_true.1 h1
    simp only [Bool.and_eq_true, decide_eq_true_eq] at hu3
    exact wait_one hu3.2 (inv.tail u hu3.1 (by have := List.mem_range.1 hu2; omega)) hr
  · simp only [Bool.and_eq_true, beq_iff_eq] at h1
    obtain ⟨rfl, hs⟩ := h1
    exact sink_waits hs inv _ i rfl hi hu hr

theorem HeadQ.firstF {n i : Nat} {oi : Oper} {v : Value} {L : Array Bool → Act → Prop} (hi : ops[i]? = some oi) (hsel : ∀ (j : Nat) (o : Oper) cs b, ops[j]? = some o → o.op ≠ .select cs b)
    (hb : allB md ops n = true) (hin : i < n) (hdone : ∀ s a, L s a → ∀ j ∈ Region.ready md ops s, n ≤ j)
    (f : Nat) : ∀ (s : Array Bool) (a : Act), HeadInv md ops n s →
      (∀ j oj, ops[j]? = some oj → j ≠ i → s.getD j true = false → (∀ e ∈ oj.after, Region.binds md e = true → e.on ≠ i) → oi.apart ops oj = true) →
      i ∈ Region.ready md ops s → YieldsIn P ops C oi v a → HeadQ P md ops C n L f (s.setIfInBounds i true) (a.put oi.dst v) → HeadQ P md ops C n L (f + 1) s a := by
  have head : ∀ (s : Array Bool), HeadInv md ops n s → s.getD i true = false → ∀ j ∈ Region.ready md ops s, j < n := fun s inv hu j hj =>
    Nat.lt_of_not_le fun h => all_waits hb inv hin hu h hj
  induction f with
  | zero =>
    intro s a inv _ hr hy H
    refine ⟨fun h => (by rw [h] at hr; cases hr), fun j hj => ⟨head s inv (mem_ready.1 hr).1 j hj, ?_⟩⟩
    by_cases e : j = i
    · subst e; exact hy.qOp hi H
    · exact absurd (hdone _ _ H j (ready_mono hj e)) (by have := head s inv (mem_ready.1 hr).1 j hj; omega)
  | succ f ih =>
    intro s a inv free hr hy H
    have hu := (mem_ready.1 hr).1
    refine ⟨fun h => (by rw [h] at hr; cases hr), fun j hj => ⟨head s inv hu j hj, ?_⟩⟩
    by_cases e : j = i
    · subst e; exact hy.qOp hi H
    · obtain ⟨hju, oj, hoj, hall⟩ := mem_ready.1 hj
      have hno : ∀ e ∈ oj.after, Region.binds md e = true → e.on ≠ i := fun e he hb heq => by
        have h1 := hall e he hb
        rw [heq, getD_both hu] at h1
        cases h1
      have h2 := qOp_put hoj (free j oj hoj e hju hno) (fun cs b => hsel i oi cs b hi) (fun cs b => hsel j oj cs b hoj) hy (H.2 j (ready_mono hj e)).2
      refine qOp_mono (fun a' h3 => ih _ a' (inv.set hj (head s inv hu j hj)) (fun k ok hk hki hk2 hk3 => free k ok hk hki ?_ hk3) (ready_mono hr (Ne.symm e)) h3.1 ?_) h2
      · by_cases ejk : j = k
        · subst ejk; exact hju
        · rwa [getD_set_ne true ejk] at hk2
      · rw [Array.setIfInBounds_comm _ _ e]; exact h3.2

def lexFree (md : Region.Mode) (ops : Array Oper) (n : Nat) (sN : Array Bool) : Nat → Nat → Array Bool → Bool
  | 0, _, s => (Region.ready md ops s).all (fun j => decide (n ≤ j)) && s == sN
  | f + 1, k, s => (Region.ready md ops s).contains k && Region.free md ops s k && lexFree md ops n sN f (k + 1) (s.setIfInBounds k true)

theorem HeadQ.lexF {n : Nat} {K : Act → Prop} {sN : Array Bool} (hsel : Region.noSelect ops = true) (hb : allB md ops n = true) :
    ∀ (l : List Oper) (k : Nat) (s : Array Bool) (a : Act), (∀ j, j < l.length → l[j]? = ops[k + j]?) → k + l.length = n → HeadInv md ops n s →
    lexFree md ops n sN l.length k s = true → wpQuiet P ops C K l a →
    HeadQ P md ops C n (fun s' a' => ((∀ j ∈ Region.ready md ops s', n ≤ j) ∧ s' = sN) ∧ K a') l.length s a
  | [], k, s, a, _, hk, _, hB, h => by
    simp only [List.length_nil, lexFree, Bool.and_eq_true, List.all_eq_true, decide_eq_true_eq, beq_iff_eq] at hB
    exact ⟨⟨hB.1, hB.2⟩, h⟩
  | o :: l, k, s, a, hl, hk, inv, hB, h => by
    have h0 : ops[k]? = some o := by simpa using (hl 0 (by simp)).symm
    simp only [List.length_cons, lexFree, Bool.and_eq_true] at hB
    obtain ⟨⟨hr, hf⟩, hB'⟩ := hB
    have hkn : k < n := by simp only [List.length_cons] at hk; omega
    have hr' : k ∈ Region.ready md ops s := by simpa using hr
    have hq : qOp P ops C k (wpQuiet P ops C K l) a := by unfold qOp; simp only [h0]; exact h
    obtain ⟨v, hy, hK⟩ := yieldsIn_of_qOp h0 hq
    exact HeadQ.firstF h0 (Region.noSelect_spec hsel) hb hkn (fun s' a' hL => hL.1.1) l.length s a inv (Region.free_spec h0 hf) hr' hy
      (HeadQ.lexF hsel hb l (k + 1) _ _ (fun j hj => by have := hl (j + 1) (by simp; omega); simpa [Nat.add_assoc, Nat.add_comm 1 j] using this) (by simp only [List.length_cons] at hk; omega) (inv.set hr' hkn) hB' hK)

/-- One operation alone may come up. -/
theorem any_one {Q : Exit → Act → World → Prop} {i : Nat} {o : Oper} {f : Nat} {s : Array Bool} {a : Act} {w : World} (hi : ops[i]? = some o) (hr : Region.ready .any ops s = [i])
    (h : ∀ K' : Act → World → Prop, Shut (∀ a w, wpAny P .any ops Q f (s.setIfInBounds i true) a w → K' a w) → if Region.wanted o (yielded ops a.tmps) = true then Oper.wp P o a w K' Q else K' (a.put o.dst undef) w) :
    wpAny P .any ops Q (f + 1) s a w := by
  refine ⟨fun h0 => (by rw [hr] at h0; cases h0), fun j hj => ?_⟩
  obtain rfl : j = i := by rw [hr] at hj; simpa using hj
  exact wpOp_step hi fun K' hK => h K' hK
/-- Two operations may come up. -/
theorem any_two {Q : Exit → Act → World → Prop} {i k : Nat} {o o' : Oper} {f : Nat} {s : Array Bool} {a : Act} {w : World} (hi : ops[i]? = some o) (hk : ops[k]? = some o') (hr : Region.ready .any ops s = [i, k])
    (h : ∀ K' : Act → World → Prop, Shut (∀ a w, wpAny P .any ops Q f (s.setIfInBounds i true) a w → K' a w) → if Region.wanted o (yielded ops a.tmps) = true then Oper.wp P o a w K' Q else K' (a.put o.dst undef) w)
    (h' : ∀ K' : Act → World → Prop, Shut (∀ a w, wpAny P .any ops Q f (s.setIfInBounds k true) a w → K' a w) → if Region.wanted o' (yielded ops a.tmps) = true then Oper.wp P o' a w K' Q else K' (a.put o'.dst undef) w) :
    wpAny P .any ops Q (f + 1) s a w := by
  refine ⟨fun h0 => (by rw [hr] at h0; cases h0), fun j hj => ?_⟩
  have : j = i ∨ j = k := by rw [hr] at hj; simpa using hj
  rcases this with e | e
  · subst e; exact wpOp_step hi fun K' hK => h K' hK
  · subst e; exact wpOp_step hk fun K' hK => h' K' hK
theorem any_nil {Q : Exit → Act → World → Prop} {s : Array Bool} {a : Act} {w : World} (hr : Region.ready .any ops s = []) (h : wpList P ops Q [] a w) : wpAny P .any ops Q 0 s a w := ⟨hr, h⟩
end

def doneN (n m : Nat) : Array Bool := (List.replicate n true ++ List.replicate m false).toArray
theorem region_quiet_free {P : Program} {id : Nat} {Q : Exit → Act → World → Prop} {a : Act} {w : World} {l : List Oper} (n g : Nat) (hm : P.follows .mixedOrders = true)
    (hB : (Region.noSelect l.toArray && allB .any l.toArray n && lexFree .any l.toArray n (doneN n g) n 0 (Array.replicate l.toArray.size false) && l.length == n + g) = true)
    (h : wpQuiet P l.toArray (fun w' => ∃ n, w' = w.drewN n) (fun a' => ∀ w', (∃ n, w' = w.drewN n) → wpAny P .any l.toArray Q g (doneN n g) a' w') (l.take n) a) : (Code.region id l.toArray true).wp P Q a w := by
  simp only [Bool.and_eq_true, beq_iff_eq] at hB
  obtain ⟨⟨⟨hsel, hb⟩, hlex⟩, hlen⟩ := hB
  have htl : (l.take n).length = n := by simp; omega
  have inv0 : HeadInv .any l.toArray n (Array.replicate l.toArray.size false) :=
    ⟨by simp, fun j oj _ hl => (by rw [getD_replicate_false] at hl; cases hl), fun t _ ht => getD_in (by simpa using ht) (getD_replicate_false _ _)⟩
  have H := HeadQ.lexF (md := .any) (sN := doneN n g) hsel hb (l.take n) 0 _ a (fun j hj => by
    have hj' : j < n := by rw [htl] at hj; exact hj
    simp [hj']) (by simpa using htl) inv0 (by rw [htl]; exact hlex) h
  refine wp_region_any hm ?_
  have := HeadQ.any (Q := Q) (g := g) (fun s a' w' hw' hL => by rw [hL.1.2]; exact hL.2 w' hw') _ _ _ { w with drawn := w.drawn + 1 } ⟨1, rfl⟩ H
  rw [htl, show n + g = l.toArray.size by simp; omega] at this
  exact this
end Go.Proofs.YtbibokkclejapaaDoor
