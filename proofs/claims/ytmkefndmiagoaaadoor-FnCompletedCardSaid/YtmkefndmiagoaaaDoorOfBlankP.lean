/- A line of a word, blanks and what is begun: plain. -/
import Derived.Test.YtmkefndmiagoaaaDoorOfLetters
namespace Go.Proofs.YtmkefndmiagoaaaDoor
open Go.RowKit
set_option linter.unusedVariables false
set_option linter.unusedSimpArgs false

/-- Some blanks, four at most. -/
def blk (k : Nat) : ByteArray := (⟨#[32, 32, 32, 32]⟩ : ByteArray).extract 0 k
theorem blk_list (k : Nat) (h1 : 1 ≤ k) (h4 : k ≤ 4) : (blk k).data.toList = List.replicate k 32 := by
  unfold blk
  rw [extract_list]
  rcases (show k = 1 ∨ k = 2 ∨ k = 3 ∨ k = 4 by omega) with rfl | rfl | rfl | rfl <;> rfl
theorem blk_ascii (k : Nat) (h1 : 1 ≤ k) (h4 : k ≤ 4) : IsAscii (blk k) := fun b hb => by
  rw [blk_list k h1 h4] at hb
  have := List.eq_of_mem_replicate hb
  subst this; decide
theorem blk_size (k : Nat) (h1 : 1 ≤ k) (h4 : k ≤ 4) : (blk k).size = k := by
  have : (blk k).data.toList.length = (blk k).size := by simp
  rw [← this, blk_list k h1 h4, List.length_replicate]
theorem blk_runes (k : Nat) (h1 : 1 ≤ k) (h4 : k ≤ 4) : runes (blk k) = List.replicate k 32 := by
  rw [runes_ascii _ (blk_ascii k h1 h4), blk_list k h1 h4, List.map_replicate]
  rfl

/-- A line: a word, blanks, and what is begun. -/
structure Line2 (s b x : ByteArray) (k : Nat) : Prop where
  hs : IsSmall s
  hb : IsSmall b
  hk : 1 ≤ k
  h4 : k ≤ 4
  hs0 : 0 < s.size
  hb0 : 0 < b.size
  hx : x = s ++ blk k ++ b
theorem Line2.ascii {s b x : ByteArray} {k : Nat} (h : Line2 s b x k) : IsAscii x := by rw [h.hx]; exact (h.hs.ascii.append (blk_ascii k h.hk h.h4)).append h.hb.ascii
theorem Line2.codes {s b x : ByteArray} {k : Nat} (h : Line2 s b x k) : runes x = runes s ++ (List.replicate k 32 ++ runes b) := by
  rw [h.hx, runes_cat _ _ (h.hs.ascii.append (blk_ascii k h.hk h.h4)) h.hb.ascii, runes_cat _ _ h.hs.ascii (blk_ascii k h.hk h.h4), blk_runes k h.hk h.h4, List.append_assoc]
theorem Line2.size {s b x : ByteArray} {k : Nat} (h : Line2 s b x k) : x.size = s.size + k + b.size := by
  rw [h.hx, ByteArray.size_append, ByteArray.size_append, blk_size k h.hk h.h4]
theorem Line2.blank {s b x : ByteArray} {k : Nat} (h : Line2 s b x k) (i : Nat) (hi : i < k) : nth (runes x) (s.size + i) = 32 := by
  have hl := runes_ascii_length s h.hs.ascii
  rw [h.codes]
  simp only [nth, List.getD_eq_getElem?_getD]
  rw [List.getElem?_append_right (by omega), List.getElem?_append_left (by rw [List.length_replicate]; omega), hl, show s.size + i - s.size = i by omega, List.getElem?_replicate, if_pos hi]
  rfl
theorem Line2.first {s b x : ByteArray} {k : Nat} (h : Line2 s b x k) : nth (runes x) (s.size + k) ≠ 32 := by
  have hl := runes_ascii_length s h.hs.ascii
  have hl2 := runes_ascii_length b h.hb.ascii
  have h0 := h.hb0
  rw [h.codes]
  simp only [nth, List.getD_eq_getElem?_getD]
  rw [List.getElem?_append_right (by omega), List.getElem?_append_right (by rw [List.length_replicate]; omega), List.length_replicate, hl, show s.size + k - s.size - k = 0 by omega, List.getElem?_eq_getElem (by omega)]
  have := h.hb.runes _ (List.getElem_mem (show 0 < (runes b).length by omega))
  simp only [Option.getD_some]
  omega
theorem Line2.drop {s b x : ByteArray} {k : Nat} (h : Line2 s b x k) : (runes x).drop (s.size + k) = runes b := by
  have hl := runes_ascii_length s h.hs.ascii
  rw [h.codes, ← List.append_assoc, List.drop_left' (by rw [List.length_append, List.length_replicate, hl])]
theorem Line2.head {s b x : ByteArray} {k : Nat} (h : Line2 s b x k) : 97 ≤ nth (runes x) 0 ∧ nth (runes x) 0 ≤ 122 := by
  have hl := runes_ascii_length s h.hs.ascii
  have h0 := h.hs0
  rw [h.codes]
  have e : nth (runes s ++ (List.replicate k 32 ++ runes b)) 0 = (runes s)[0]'(by omega) := by
    simp only [nth, List.getD_eq_getElem?_getD]
    rw [List.getElem?_append_left (by omega), List.getElem?_eq_getElem (by omega)]
    rfl
  rw [e]
  exact h.hs.runes _ (List.getElem_mem _)
/-- The word's own name is at the line's head. -/
theorem Line2.own {s b x : ByteArray} {k : Nat} (h : Line2 s b x k) : (runes x).take (runes s ++ [32]).length = runes s ++ [32] := by
  have e : List.replicate k (32 : Int) = 32 :: List.replicate (k - 1) 32 := by
    have := h.hk
    rw [show k = (k - 1) + 1 by omega, List.replicate_succ, Nat.add_sub_cancel]
  have e3 : runes s ++ (32 :: List.replicate (k - 1) 32 ++ runes b) = (runes s ++ [32]) ++ (List.replicate (k - 1) 32 ++ runes b) := by simp
  rw [h.codes, e, e3, List.take_left' rfl]
/-- No other's is. -/
theorem Line2.other {s b x t : ByteArray} {k : Nat} (h : Line2 s b x k) (ht : IsSmall t) (hne : t ≠ s) : (runes x).take (runes t ++ [32]).length ≠ runes t ++ [32] := fun e => by
  have hl := runes_ascii_length s h.hs.ascii
  have hlt := runes_ascii_length t ht.ascii
  have key : ∀ i, i ≤ t.size → (runes x)[i]? = (runes t ++ [32])[i]? := fun i hi => by
    have : ((runes x).take (runes t ++ [32]).length)[i]? = (runes t ++ [32])[i]? := congrArg (·[i]?) e
    rw [List.getElem?_take_of_lt (by rw [List.length_append, hlt]; exact Nat.lt_succ_of_le hi)] at this
    exact this
  have hx32 := h.blank 0 (by have := h.hk; omega)
  rw [Nat.add_zero] at hx32
  have hxs : s.size < (runes x).length := by rw [runes_ascii_length x h.ascii, h.size]; have := h.hk; omega
  rcases Nat.lt_trichotomy t.size s.size with c | c | c
  · have h1 := key t.size (Nat.le_refl _)
    rw [h.codes, List.getElem?_append_left (by omega), List.getElem?_append_right (by omega), hlt, Nat.sub_self, List.getElem?_eq_getElem (by omega)] at h1
    have h2 := h.hs.runes _ (List.getElem_mem (show t.size < (runes s).length by omega))
    simp at h1
    omega
  · refine hne (runes_inj ht.ascii h.hs.ascii (List.ext_getElem (by omega) fun i h1 h2 => ?_))
    have h3 := key i (by omega)
    rw [h.codes, List.getElem?_append_left h2, List.getElem?_append_left h1, List.getElem?_eq_getElem h1, List.getElem?_eq_getElem h2] at h3
    exact (Option.some.inj h3).symm
  · have h1 := key s.size (by omega)
    rw [List.getElem?_eq_getElem hxs, List.getElem?_append_left (by omega), List.getElem?_eq_getElem (by omega)] at h1
    have h2 := ht.runes _ (List.getElem_mem (show s.size < (runes t).length by omega))
    simp only [nth, List.getD_eq_getElem?_getD, List.getElem?_eq_getElem hxs, Option.getD_some] at hx32
    have h3 := Option.some.inj h1
    omega
/-- The line begins no name. -/
theorem Line2.longer {s b x t : ByteArray} {k : Nat} (h : Line2 s b x k) (ht : IsSmall t) (hle : x.size ≤ t.size) : (runes t ++ [32]).take (runes x).length ≠ runes x := fun e => by
  have hlt := runes_ascii_length t ht.ascii
  have hlx := runes_ascii_length x h.ascii
  have hsz := h.size
  have hk := h.hk
  have hb0 := h.hb0
  have hx32 := h.blank 0 (by omega)
  rw [Nat.add_zero] at hx32
  have h1 : ((runes t ++ [32]).take (runes x).length)[s.size]? = (runes x)[s.size]? := congrArg (·[s.size]?) e
  rw [List.getElem?_take_of_lt (by omega), List.getElem?_append_left (by omega), List.getElem?_eq_getElem (by omega), List.getElem?_eq_getElem (by omega)] at h1
  have h2 := ht.runes _ (List.getElem_mem (show s.size < (runes t).length by omega))
  simp only [nth, List.getD_eq_getElem?_getD, List.getElem?_eq_getElem (show s.size < (runes x).length by omega), Option.getD_some] at hx32
  have h3 := Option.some.inj h1
  omega
end Go.Proofs.YtmkefndmiagoaaaDoor
