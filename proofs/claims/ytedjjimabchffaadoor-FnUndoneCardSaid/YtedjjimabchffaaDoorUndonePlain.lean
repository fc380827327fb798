/- Steps and their contrary steps: plain facts on scripts. -/
import Derived.Test.YtedjjimabchffaaDoorInsertBack
import Derived.Test.YtedjjimabchffaaDoorRowStrsB
import Derived.Test.YtedjjimabchffaaDoorRowInts
namespace Go.Proofs.YtedjjimabchffaaDoor
open Go.RowKit
set_option linter.unusedVariables false
set_option linter.unusedSimpArgs false

/-- A text that is put in, or so many signs that are taken out ahead of the cursor. -/
def Alt (e : Ed) : Prop := (e.op = 1 ∧ e.n = 0 ∧ e.f = false ∧ IsAscii e.s) ∨ (∃ n : Nat, e.op = 7 ∧ e.n = (n : Nat) ∧ n ≤ 255 ∧ e.s = ⟨#[]⟩ ∧ e.f = false)
def total (es : List Ed) : Nat := (es.map fun e => e.s.size).sum
def back (e : Ed) (t : ByteArray) : Ed := if e.op = 1 then ⟨7, (e.s.size : Nat), ⟨#[]⟩, false⟩ else ⟨1, 0, t, false⟩

theorem cut_take (s : ByteArray) (i k : Nat) (hi : i ≤ k) (hk : k ≤ s.size) :
    (s.extract 0 i ++ s.extract k s.size).extract 0 i ++ s.extract i k ++ (s.extract 0 i ++ s.extract k s.size).extract i (s.extract 0 i ++ s.extract k s.size).size = s ∧ (s.extract 0 i ++ s.extract k s.size).size = i + (s.size - k) := by
  have hP := size_sub s 0 i (by omega)
  have hQ := size_sub s k s.size (by omega)
  have hz : (s.extract 0 i ++ s.extract k s.size).size = i + (s.size - k) := by simp [ByteArray.size_append]; omega
  have h := mid_cut (s.extract 0 i) ⟨#[]⟩ (s.extract k s.size) i i (by omega) rfl
  rw [append_none] at h
  refine ⟨?_, hz⟩
  rw [h.2.1, h.2.2.1]
  apply ba_ext
  rw [ba_append_list, ba_append_list, extract_list, extract_list, extract_list, List.drop_zero, Nat.sub_zero]
  rw [List.take_of_length_le (l := s.data.toList.drop k) (by simp)]
  have e : s.data.toList.drop k = (s.data.toList.drop i).drop (k - i) := by rw [List.drop_drop]; congr 1; omega
  rw [e, List.append_assoc, List.take_append_drop, List.take_append_drop]

theorem alt_step (e : Ed) (ha : Alt e) (s : ByteArray) (k : Nat) (hs : IsAscii s) (hk : k ≤ s.size) (hz : s.size + e.s.size ≤ 1000) :
    ∃ t s1 k1, StepOk e s k t s1 k1 ∧ IsAscii s1 ∧ k1 ≤ s1.size ∧ s1.size ≤ s.size + e.s.size ∧ ∃ u, StepOk (back e t) s1 k1 u s k := by
  obtain ⟨op, n, v, f⟩ := e
  rcases ha with ⟨h1, h2, h3, h4⟩ | ⟨n, h1, h2, h3, h4, h5⟩
  · simp only at h1 h2 h3 h4 hz
    subst h1 h2 h3
    have hP := size_sub s 0 k (by omega)
    have hQ := size_sub s k s.size (by omega)
    obtain ⟨m1, m2, m3, m4⟩ := mid_cut (s.extract 0 k) v (s.extract k s.size) k (k + v.size) (by omega) rfl
    refine ⟨_, _, _, step_insert s v k ⟨hs, by omega⟩ ⟨h4, by omega⟩ hk 0, ascii_append (ascii_append (hs.extract _ _) h4) (hs.extract _ _), by omega, by show _ ≤ s.size + v.size; omega, v, ?_⟩
    have := insert_before s v k ⟨hs, by omega⟩ h4 hk (by omega) (by omega) ⟨#[]⟩ false
    simpa [back] using this
  · simp only at h1 h2 h4 h5
    subst h1 h2 h4 h5
    obtain ⟨c1, c2⟩ := cut_take s (k - n) k (by omega) hk
    have ht : (s.extract (k - n) k).size = k - (k - n) := size_sub s (k - n) k hk
    have ha1 : IsAscii (s.extract 0 (k - n) ++ s.extract k s.size) := ascii_append (hs.extract _ _) (hs.extract _ _)
    have hz0 : s.size ≤ 1000 := by omega
    refine ⟨_, _, _, step_before s k n ⟨hs, by omega⟩ hk (by omega) ⟨#[]⟩ false, ha1, by omega, by show _ ≤ s.size + (⟨#[]⟩ : ByteArray).size; omega, ⟨#[]⟩, ?_⟩
    have := step_insert (s.extract 0 (k - n) ++ s.extract k s.size) (s.extract (k - n) k) (k - n) ⟨ha1, by omega⟩ ⟨hs.extract _ _, by omega⟩ (by omega) 0
    rw [c1, ht, show k - n + (k - (k - n)) = k by omega] at this
    exact this

theorem Chain.append {A B : List Ed} {s s1 s2 : ByteArray} {k k1 k2 : Nat} {ts us : List ByteArray} (h : Chain A s k ts s1 k1) (h' : Chain B s1 k1 us s2 k2) : Chain (A ++ B) s k (ts ++ us) s2 k2 := by
  induction h with
  | nil => exact h'
  | cons h1 _ ih => exact .cons h1 (ih h')

theorem alt_chain : ∀ (es : List Ed) (s : ByteArray) (k : Nat), (∀ e ∈ es, Alt e) → IsAscii s → k ≤ s.size → s.size + total es ≤ 1000 →
    ∃ ts s' k', Chain es s k ts s' k' ∧ IsAscii s' ∧ k' ≤ s'.size ∧ s'.size ≤ 1000 ∧ ∃ us, Chain (List.zipWith back es ts).reverse s' k' us s k
  | [], s, k, _, hs, hk, hz => ⟨[], s, k, .nil _ _, hs, hk, by omega, [], .nil _ _⟩
  | e :: es, s, k, ha, hs, hk, hz => by
    have hz' : s.size + e.s.size + total es ≤ 1000 := by simp [total] at hz ⊢; omega
    obtain ⟨t, s1, k1, h1, h2, h3, h4, u, h5⟩ := alt_step e (ha e (by simp)) s k hs hk (by omega)
    obtain ⟨ts, s', k', g1, g2, g3, g4, us, g5⟩ := alt_chain es s1 k1 (fun x hx => ha x (by simp [hx])) h2 h3 (by omega)
    refine ⟨t :: ts, s', k', .cons h1 g1, g2, g3, g4, us ++ [u], ?_⟩
    rw [List.zipWith_cons_cons, List.reverse_cons]
    exact g5.append (.cons h5 (.nil _ _))

theorem nth_mem (cs : List Int) (n : Nat) (h : n < cs.length) : nth cs n ∈ cs := by
  have : nth cs n = cs[n] := by unfold nth; simp [h]
  rw [this]; exact List.getElem_mem _

/-- The script of texts and counts, by turns: the first n turns. -/
def alts (zs : List ByteArray) (cs : List Int) : Nat → List Ed
  | 0 => []
  | n + 1 => alts zs cs n ++ (if n < zs.length then [⟨1, 0, txt zs n, false⟩] else []) ++ (if n < cs.length then [⟨7, nth cs n, ⟨#[]⟩, false⟩] else [])

theorem alts_ok (zs : List ByteArray) (cs : List Int) (hz : ∀ z ∈ zs, IsAscii z) (hc : ∀ c ∈ cs, 0 ≤ c ∧ c ≤ 255) : ∀ n, ∀ e ∈ alts zs cs n, Alt e
  | 0, e, he => by simp [alts] at he
  | n + 1, e, he => by
    rw [alts, List.mem_append, List.mem_append] at he
    rcases he with (he | he) | he
    · exact alts_ok zs cs hz hc n e he
    · split at he
      · rename_i h
        obtain rfl : e = _ := by simpa using he
        refine .inl ⟨rfl, rfl, rfl, ?_⟩
        exact hz _ (txt_mem zs n h)
      · simp at he
    · split at he
      · rename_i h
        obtain rfl : e = _ := by simpa using he
        obtain ⟨a, b⟩ := hc _ (nth_mem cs n h)
        obtain ⟨m, hm⟩ := Int.eq_ofNat_of_zero_le a
        exact .inr ⟨m, rfl, hm, by omega, rfl, rfl⟩
      · simp at he

theorem total_append (a b : List Ed) : total (a ++ b) = total a + total b := by simp [total]
theorem alts_total (zs : List ByteArray) (cs : List Int) : ∀ n, total (alts zs cs n) = ((zs.take n).map ByteArray.size).sum
  | 0 => by simp [alts, total]
  | n + 1 => by
    rw [alts, total_append, total_append, alts_total zs cs n]
    have e2 : total (if n < cs.length then [(⟨7, nth cs n, ⟨#[]⟩, false⟩ : Ed)] else []) = 0 := by split <;> rfl
    rw [e2]
    by_cases h : n < zs.length
    · rw [if_pos h, List.take_succ_eq_append_getElem h, List.map_append, List.sum_append]
      simp [total, txt, h]
    · rw [if_neg h, List.take_of_length_le (by omega), List.take_of_length_le (by omega)]
      simp [total]

theorem alts_len (zs : List ByteArray) (cs : List Int) : ∀ n, (alts zs cs n).length ≤ 2 * n
  | 0 => by simp [alts]
  | n + 1 => by
    have := alts_len zs cs n
    rw [alts, List.length_append, List.length_append]
    split <;> split <;> simp <;> omega

/-- The contrary steps from a place on, in the other order. -/
def backs (es : List Ed) (ts : List ByteArray) (m : Nat) : List Ed := ((List.zipWith back es ts).drop m).reverse
theorem backs_end (es : List Ed) (ts : List ByteArray) (m : Nat) (h : es.length ≤ m) : backs es ts m = [] := by
  unfold backs
  rw [List.drop_of_length_le (by simp; omega)]; rfl
theorem backs_step (es : List Ed) (ts : List ByteArray) (m : Nat) (e : Ed) (t : ByteArray) (he : es[m]? = some e) (ht : ts[m]? = some t) : backs es ts m = backs es ts (m + 1) ++ [back e t] := by
  unfold backs
  have h1 : m < es.length := (List.getElem?_eq_some_iff.1 he).1
  have h2 : m < ts.length := (List.getElem?_eq_some_iff.1 ht).1
  rw [List.drop_eq_getElem_cons (by simp; omega), List.reverse_cons]
  congr 2
  rw [List.getElem_zipWith]
  congr 1
  · exact (List.getElem?_eq_some_iff.1 he).2
  · exact (List.getElem?_eq_some_iff.1 ht).2
theorem backs_len (es : List Ed) (ts : List ByteArray) (m : Nat) : (backs es ts m).length ≤ es.length := by
  unfold backs; simp; omega
end Go.Proofs.YtedjjimabchffaaDoor
