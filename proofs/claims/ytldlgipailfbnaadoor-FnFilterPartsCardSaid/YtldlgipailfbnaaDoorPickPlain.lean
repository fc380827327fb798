/- Picks: texts with descriptions, in lists; what filters let through. -/
import Derived.Test.YtldlgipailfbnaaDoorAsciiText
import Derived.Deep.AppendLies
import Derived.Laws.AppendOwnNone
import Derived.WalkSmall
import Derived.Maps.AppendAt
import Derived.Lib.Case
namespace Go.Proofs.YtldlgipailfbnaaDoor
open Go.RowKit
set_option linter.unusedVariables false
set_option linter.unusedSimpArgs false

/-- A pick. -/
structure Pk where
  t : ByteArray
  d : ByteArray
def Pk.cells (p : Pk) : List Value := [.string p.t, .string p.d]
def pkCells (ps : List Pk) : List Value := ps.flatMap Pk.cells
theorem pkCells_append (a b : List Pk) : pkCells (a ++ b) = pkCells a ++ pkCells b := List.flatMap_append
theorem pkCells_one (p : Pk) : pkCells [p] = p.cells := by simp [pkCells]
theorem pkCells_len : ∀ ps : List Pk, (pkCells ps).length = ps.length * 2
  | [] => rfl
  | p :: ps => by
    have : pkCells (p :: ps) = p.cells ++ pkCells ps := rfl
    rw [this, List.length_append, pkCells_len ps]; simp [Pk.cells]; omega
theorem pkCells_at : ∀ (ps : List Pk) (j : Nat) (p : Pk), ps[j]? = some p → (pkCells ps)[j * 2]? = some (.string p.t) ∧ (pkCells ps)[j * 2 + 1]? = some (.string p.d)
  | [], j, p, h => by simp at h
  | q :: ps, 0, p, h => by
    obtain rfl : q = p := by simpa using h
    exact ⟨rfl, rfl⟩
  | q :: ps, j + 1, p, h => by
    obtain ⟨h1, h2⟩ := pkCells_at ps j p (by simpa using h)
    have hl : q.cells.length = 2 := rfl
    have e : ∀ i, (pkCells (q :: ps))[(j + 1) * 2 + i]? = (pkCells ps)[j * 2 + i]? := fun i => by
      have : pkCells (q :: ps) = q.cells ++ pkCells ps := rfl
      rw [this, List.getElem?_append_right (by omega), hl]; congr 1; omega
    exact ⟨(e 0).trans h1, (e 1).trans h2⟩
theorem pk_one (p : Pk) : ∀ u ∈ p.cells, u.oneCell' = true := by
  intro u hu
  simp [Pk.cells] at hu
  rcases hu with rfl | rfl <;> rfl
theorem pks_one (ps : List Pk) : ∀ u ∈ pkCells ps, u.oneCell' = true := by
  intro u hu
  obtain ⟨p, _, hp⟩ := List.mem_flatMap.1 hu
  exact pk_one p u hp

/-- A list's pick at a place. -/
def pkAt (ps : List Pk) (k : Nat) : Pk := ps.getD k ⟨⟨#[]⟩, ⟨#[]⟩⟩
theorem pkAt_some (ps : List Pk) (k : Nat) (h : k < ps.length) : ps[k]? = some (pkAt ps k) := by simp [pkAt, h]
theorem pkAt_mem (ps : List Pk) (k : Nat) (h : k < ps.length) : pkAt ps k ∈ ps := by simp [pkAt, h]
theorem pk_take (ps : List Pk) (k : Nat) (h : k < ps.length) : ps.take (k + 1) = ps.take k ++ [pkAt ps k] := by
  rw [List.take_succ_eq_append_getElem h]; simp [pkAt, h]

/-- What the walks are told of a slice of picks: nothing in it, or its cells up to its length. -/
def IsPks (w : World) (a : Option Addr) (ps : List Pk) : Prop :=
  ps = [] ∨ ∃ b off, a = some ⟨b, off, none⟩ ∧ b < w.heap.size ∧ ∀ j, j < ps.length → w.cell? ⟨b, off + j * 2, none⟩ = some (.string (pkAt ps j).t) ∧ w.cell? ⟨b, off + j * 2 + 1, none⟩ = some (.string (pkAt ps j).d)
theorem IsPks.below {w w' : World} {a : Option Addr} {ps : List Pk} (h : IsPks w a ps) (hb : Below w.heap.size w w') : IsPks w' a ps := by
  rcases h with h | ⟨b, off, ha, hl, hc⟩
  · exact .inl h
  · exact .inr ⟨b, off, ha, Nat.lt_of_lt_of_le hl hb.size, fun j hj => ⟨(hb.cell (p := ⟨b, off + j * 2, none⟩) hl).trans (hc j hj).1, (hb.cell (p := ⟨b, off + j * 2 + 1, none⟩) hl).trans (hc j hj).2⟩⟩
/-- A slice of picks that the call owns reads so. -/
theorem pks_of_owns {w : World} {base T : Nat} {A : Option Addr} {n cap : Nat} {ps : List Pk} (h : w.ownsRow base T 2 (.slice A n cap) n (pkCells ps)) : n = ps.length ∧ IsPks w A ps := by
  obtain ⟨hl, ho⟩ := h
  rw [pkCells_len] at hl
  have hn : n = ps.length := by omega
  refine ⟨hn, ?_⟩
  rcases ho with ⟨hv, h0⟩ | ⟨g, c, cur, hv, hg, hh, hn1, hcm, hcs, htk⟩
  · exact .inl (List.length_eq_zero_iff.1 (by omega))
  · cases hv
    refine .inr ⟨g, 0, rfl, (Array.getElem?_eq_some_iff.1 hh).1, fun j hj => ?_⟩
    obtain ⟨h1, h2⟩ := pkCells_at ps j _ (pkAt_some ps j hj)
    have q : ∀ i, i < 2 → ∀ u, (pkCells ps)[j * 2 + i]? = some u → w.cell? ⟨g, 0 + j * 2 + i, none⟩ = some u := fun i hi u hu => by
      rw [World.cell?, hh]
      have := congrArg (·[j * 2 + i]?) htk
      simp only [List.getElem?_take_of_lt (show j * 2 + i < n * 2 by omega), hu] at this
      rw [Nat.zero_add]
      simpa using this
    exact ⟨q 0 (by omega) _ h1, q 1 (by omega) _ h2⟩
/-- As append's source. -/
def PkSrc (w : World) (B : Option Addr) (ps : List Pk) : Prop := ps = [] ∨ ∃ ad, B = some ad ∧ ∀ (j : Nat) (u : Value), (pkCells ps)[j]? = some u → w.cell? (ad.add j) = some u
theorem add_flat (b off j : Nat) : (⟨b, off, none⟩ : Addr).add j = ⟨b, off + j, none⟩ := by
  unfold Addr.add
  by_cases e : j = 0
  · rw [if_pos e, e]; rfl
  · rw [if_neg e]
theorem IsPks.src {w : World} {B : Option Addr} {ps : List Pk} (h : IsPks w B ps) : PkSrc w B ps := by
  rcases h with h | ⟨b, off, rfl, _, hc⟩
  · exact .inl h
  · refine .inr ⟨_, rfl, fun j u hu => ?_⟩
    rw [add_flat]
    have hj : j < ps.length * 2 := by rw [← pkCells_len]; exact (List.getElem?_eq_some_iff.1 hu).1
    have hj2 : j / 2 < ps.length := by omega
    obtain ⟨h1, h2⟩ := pkCells_at ps (j / 2) _ (pkAt_some ps _ hj2)
    obtain ⟨c1, c2⟩ := hc (j / 2) hj2
    rcases Nat.mod_two_eq_zero_or_one j with e | e
    · have e' : j / 2 * 2 = j := by omega
      rw [e'] at h1 c1
      rw [h1] at hu
      rw [c1, ← hu]
    · have e' : j / 2 * 2 + 1 = j := by omega
      rw [Nat.add_assoc, e'] at c2
      rw [e'] at h2
      rw [h2] at hu
      rw [c2, ← hu]

theorem news_pk (w : World) (p : Pk) (t : TypeId) : ∀ (j : Nat) (u : Value), (p.cells)[j]? = some u → (w.alloc (.cells #[.string p.t, .string p.d] t)).cell? ((⟨w.heap.size, 0, none⟩ : Addr).add j) = some u := by
  intro j u h
  unfold Pk.cells at h
  match j, h with
  | 0, h => simp at h; subst h; simp [Addr.add]
  | 1, h => simp at h; subst h; simp [Addr.add]
  | j + 2, h => simp at h

/-- Picks that are looked at. -/
def Fine (ps : List Pk) : Prop := ps.length ≤ 40 ∧ ∀ p ∈ ps, IsAscii p.t ∧ p.t.size ≤ 60
theorem Fine.filter {ps : List Pk} (h : Fine ps) (f : Pk → Bool) : Fine (ps.filter f) :=
  ⟨Nat.le_trans (List.length_filter_le _ _) h.1, fun p hp => h.2 p (List.mem_filter.1 hp).1⟩

/-- In capitals, if that is asked for. -/
def up (any : Bool) (s : ByteArray) : ByteArray := if any then ⟨(Lib.toUpperA s.data.toList).toArray⟩ else s
/-- What a filter asks of a text and a part. -/
def Asks := ByteArray → ByteArray → Bool
noncomputable def preA : Asks := fun s t => by classical exact decide (t.data.toList <+: s.data.toList)
noncomputable def sufA : Asks := fun s t => by classical exact decide (t.data.toList <:+ s.data.toList)
noncomputable def conA : Asks := fun s t => by classical exact decide (t.data.toList <:+: s.data.toList)
noncomputable def fuzA : Asks := fun s t => by classical exact decide (t.data.toList.Sublist s.data.toList)
theorem preA_true {s t : ByteArray} : preA s t = true ↔ t.data.toList <+: s.data.toList := by simp [preA]
theorem sufA_true {s t : ByteArray} : sufA s t = true ↔ t.data.toList <:+ s.data.toList := by simp [sufA]
theorem conA_true {s t : ByteArray} : conA s t = true ↔ t.data.toList <:+: s.data.toList := by simp [conA]
theorem fuzA_true {s t : ByteArray} : fuzA s t = true ↔ t.data.toList.Sublist s.data.toList := by simp [fuzA]
theorem preA_con {s t : ByteArray} (h : preA s t = true) : conA s t = true := conA_true.2 (preA_true.1 h).isInfix
theorem sufA_con {s t : ByteArray} (h : sufA s t = true) : conA s t = true := conA_true.2 (sufA_true.1 h).isInfix
theorem conA_fuz {s t : ByteArray} (h : conA s t = true) : fuzA s t = true := fuzA_true.2 (conA_true.1 h).sublist
/-- The filters by their numbers. -/
noncomputable def asks (k : Nat) : Asks := if k = 1 then preA else if k = 2 then sufA else if k = 3 then conA else fuzA
theorem asks_self (k : Nat) (s : ByteArray) : asks k s s = true := by
  unfold asks
  split
  · exact preA_true.2 (List.prefix_refl _)
  split
  · exact sufA_true.2 (List.suffix_refl _)
  split
  · exact conA_true.2 (List.infix_refl _)
  · exact fuzA_true.2 (List.Sublist.refl _)

/-- What a filter lets through. -/
def filt (f : Asks) (any : Bool) (part : ByteArray) (ps : List Pk) : List Pk := if part.size = 0 then ps else ps.filter fun p => f (up any p.t) (up any part)
theorem filt_fine {f : Asks} {any : Bool} {part : ByteArray} {ps : List Pk} (h : Fine ps) : Fine (filt f any part ps) := by
  unfold filt
  split
  · exact h
  · exact h.filter _
theorem filt_append (f : Asks) (any : Bool) (part : ByteArray) (a b : List Pk) : filt f any part (a ++ b) = filt f any part a ++ filt f any part b := by
  unfold filt
  split
  · rfl
  · exact List.filter_append _ _
theorem filt_again {f g : Asks} (h : ∀ s t, f s t = true → g s t = true) (any : Bool) (part : ByteArray) (ps : List Pk) : filt g any part (filt f any part ps) = filt f any part ps := by
  unfold filt
  split
  · rfl
  · rw [List.filter_eq_self]
    intro p hp
    exact h _ _ (List.mem_filter.1 hp).2
theorem filt_none (f : Asks) (any : Bool) (ps : List Pk) : filt f any ⟨#[]⟩ ps = ps := by
  unfold filt; exact if_pos rfl
theorem filt_self (k : Nat) (any : Bool) (part d : ByteArray) : filt (asks k) any part [⟨part, d⟩] = [⟨part, d⟩] := by
  unfold filt
  split
  · rfl
  · simp [asks_self]
end Go.Proofs.YtldlgipailfbnaaDoor
