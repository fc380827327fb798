/- What is left of words that begin with a text, and what that has in common: plain, no program in sight. -/
import Derived.Test.YtmkefndmiagoaaaDoorAsciiText
import Derived.Test.YtmkefndmiagoaaaDoorFits
namespace Go.Proofs.YtmkefndmiagoaaaDoor
open Go.RowKit
set_option linter.unusedVariables false
set_option linter.unusedSimpArgs false

/-- A text of small letters. -/
def IsSmall (s : ByteArray) : Prop := ∀ b ∈ s.data.toList, 97 ≤ b.toNat ∧ b.toNat ≤ 122
theorem IsSmall.ascii {s : ByteArray} (h : IsSmall s) : IsAscii s := fun b hb => by have := h b hb; omega
theorem IsSmall.append {s t : ByteArray} (h : IsSmall s) (k : IsSmall t) : IsSmall (s ++ t) := fun b hb => by
  rw [ByteArray.toList_data_append] at hb
  rcases List.mem_append.1 hb with hb | hb
  · exact h b hb
  · exact k b hb
theorem IsSmall.extract {s : ByteArray} (h : IsSmall s) (i j : Nat) : IsSmall (s.extract i j) := fun b hb => by
  rw [extract_list] at hb
  exact h b (List.mem_of_mem_drop (List.mem_of_mem_take hb))
theorem IsSmall.runes {s : ByteArray} (h : IsSmall s) : ∀ z ∈ runes s, 97 ≤ z ∧ z ≤ 122 := fun z hz => by
  rw [runes_ascii s h.ascii] at hz
  obtain ⟨b, hb, rfl⟩ := List.mem_map.1 hz
  have := h b hb; omega
theorem runes_cat (s t : ByteArray) (h : IsAscii s) (k : IsAscii t) : runes (s ++ t) = runes s ++ runes t := by
  rw [runes_ascii _ (h.append k), runes_ascii s h, runes_ascii t k, ByteArray.toList_data_append, List.map_append]
theorem runes_extract (s : ByteArray) (h : IsAscii s) (i j : Nat) : runes (s.extract i j) = ((runes s).drop i).take (j - i) := by
  rw [runes_ascii _ (h.extract i j), runes_ascii s h, extract_list, List.map_take, List.map_drop]
theorem bytes_of_runes (s : ByteArray) (h : IsAscii s) : runesBytes (runes s) = s := by
  have := runesBytes_sub s h 0 s.size
  rw [List.drop_zero, Nat.sub_zero, List.take_of_length_le (by rw [runes_ascii_length s h]; exact Nat.le_refl _), extract_all] at this
  exact this
theorem runes_inj {s t : ByteArray} (h : IsAscii s) (k : IsAscii t) (e : runes s = runes t) : s = t := by
  rw [← bytes_of_runes s h, ← bytes_of_runes t k, e]
/-- One blank. -/
def sp1 : ByteArray := ⟨#[32]⟩
theorem sp1_ascii : IsAscii sp1 := fun b hb => by
  have : b = 32 := by simpa [sp1] using hb
  subst this; decide
theorem sp1_runes : runes sp1 = [32] := by rw [runes_ascii _ sp1_ascii]; rfl

/-- Whether a word begins with a text; what is left of it then, with a blank behind; that of all that begin so. -/
def beg (s b : ByteArray) : Bool := decide (b.size ≤ s.size ∧ s.extract 0 b.size = b)
def left (s b : ByteArray) : ByteArray := s.extract b.size s.size ++ sp1
def offs (ss : List ByteArray) (b : ByteArray) : List ByteArray := (ss.filter (beg · b)).map (left · b)

theorem left_ascii {s : ByteArray} (b : ByteArray) (h : IsAscii s) : IsAscii (left s b) := (h.extract _ _).append sp1_ascii
theorem left_runes (s b : ByteArray) (h : IsAscii s) : runes (left s b) = (runes s).drop b.size ++ [32] := by
  rw [left, runes_cat _ _ (h.extract _ _) sp1_ascii, runes_extract s h, sp1_runes, List.take_of_length_le]
  rw [List.length_drop, runes_ascii_length s h]; exact Nat.le_refl _
theorem left_size (s b : ByteArray) : (left s b).size = (s.size - b.size) + 1 := by
  unfold left
  rw [ByteArray.size_append, ByteArray.size_extract]
  show _ + 1 = _
  omega
theorem beg_size {s b : ByteArray} (h : beg s b = true) : b.size ≤ s.size := by
  unfold beg at h; simp at h; exact h.1
theorem beg_cat {s b : ByteArray} (h : beg s b = true) : b ++ s.extract b.size s.size = s := by
  unfold beg at h; simp at h
  conv => lhs; lhs; rw [← h.2]
  exact extract_cat s b.size h.1
theorem beg_runes {s b : ByteArray} (hs : IsAscii s) (hb : IsAscii b) : beg s b = decide (b.size ≤ s.size ∧ (runes s).take b.size = runes b) := by
  unfold beg
  by_cases h : b.size ≤ s.size
  · simp only [h, true_and]
    congr 1
    apply propext
    constructor
    · intro e
      have := runes_extract s hs 0 b.size
      rw [e, List.drop_zero, Nat.sub_zero] at this
      exact this.symm
    · intro e
      refine runes_inj (hs.extract _ _) hb ?_
      rw [runes_extract s hs, List.drop_zero, Nat.sub_zero, e]
  · simp [h]

/-- What rests with a sign behind them have in common lies within the shortest rest, if they are not all the same. -/
theorem common_within (R : Nat → List Int) (m S : Nat) (hm : 2 ≤ m) (h32 : ∀ j, j < m → ∀ z ∈ R j, z ≠ 32) (hne : R 0 ≠ R 1) (hS : IsCommon (fun j => R j ++ [32]) m S) :
    ∀ j, j < m → S ≤ (R j).length ∧ (R j).take S = (R 0).take S := by
  obtain ⟨h0, hs, _⟩ := hS
  have hlen : ∀ j, j < m → S ≤ (R j).length := fun j hj => by
    by_cases hc : S ≤ (R j).length
    · exact hc
    exfalso
    obtain ⟨q, hq⟩ : ∃ q, q = (R j).length := ⟨_, rfl⟩
    have hqS : q < S := by omega
    have hj32 : nth (R j ++ [32]) q = 32 := by simp [nth, hq]
    have h00 : nth (R 0 ++ [32]) q = 32 := (hs q hqS j hj).2.symm.trans hj32
    have hall : ∀ i, i < m → (R i).length = q := fun i hi => by
      obtain ⟨h1, h2⟩ := hs q hqS i hi
      simp at h1
      have h3 := h2.trans h00
      by_cases e : q < (R i).length
      · exfalso
        simp only [nth, List.getD_eq_getElem?_getD, List.getElem?_append_left e, List.getElem?_eq_getElem e, Option.getD_some] at h3
        exact h32 i hi _ (List.getElem_mem e) h3
      · omega
    refine hne (List.ext_getElem (by rw [hall 0 (by omega), hall 1 (by omega)]) fun i h1 h2 => ?_)
    have hiq : i < q := by rw [hall 0 (by omega)] at h1; exact h1
    have := (hs i (by omega) 1 (by omega)).2
    simp only [nth, List.getD_eq_getElem?_getD, List.getElem?_append_left h1, List.getElem?_append_left h2, List.getElem?_eq_getElem h1, List.getElem?_eq_getElem h2, Option.getD_some] at this
    exact this.symm
  intro j hj
  refine ⟨hlen j hj, List.ext_getElem (by simp [Nat.min_eq_left (hlen j hj), Nat.min_eq_left (hlen 0 (by omega))]) fun i h1 h2 => ?_⟩
  rw [List.length_take] at h1 h2
  have hj1 : i < (R j).length := by omega
  have hj2 : i < (R 0).length := by omega
  have := (hs i (by omega) j hj).2
  simp only [nth, List.getD_eq_getElem?_getD, List.getElem?_append_left hj1, List.getElem?_append_left hj2, List.getElem?_eq_getElem hj1, List.getElem?_eq_getElem hj2, Option.getD_some] at this
  simpa using this
end Go.Proofs.YtmkefndmiagoaaaDoor
