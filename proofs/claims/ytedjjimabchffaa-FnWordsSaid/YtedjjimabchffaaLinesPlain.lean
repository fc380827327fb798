/- The lines of a text: plain facts. No program in sight. -/
import Derived.Test.YtedjjimabchffaaAsciiText
namespace Go.Proofs.Ytedjjimabchffaa
open Go.RowKit
set_option linter.unusedVariables false
set_option linter.unusedSimpArgs false

theorem byteAt_lt (s : ByteArray) (i : Nat) (h : i < s.size) : byteAt s i = ((s[i]'h).toNat : Int) := by
  unfold byteAt
  have h' : i < s.data.toList.length := by simpa using h
  rw [List.getElem?_eq_getElem h']
  simp; rfl

theorem byteAt_extract (s : ByteArray) (a j : Nat) (b : Nat) (h : a + j < b) : byteAt (s.extract a b) j = byteAt s (a + j) := by
  unfold byteAt
  rw [extract_list, List.getElem?_take_of_lt (by omega), List.getElem?_drop]

/-- The first place of a byte of some kind, n bytes ahead of the end; -1 if there is none. -/
def fstB (s : ByteArray) (p : Int → Bool) : Nat → Int
  | 0 => -1
  | n + 1 => if p (byteAt s (s.size - (n + 1))) then ((s.size - (n + 1) : Nat) : Int) else fstB s p n
def fst (s : ByteArray) (p : Int → Bool) : Int := fstB s p s.size

theorem fstB_yes (s : ByteArray) (p : Int → Bool) (k : Nat) (h : k < s.size) (hp : p (byteAt s k) = true) : fstB s p (s.size - k) = k := by
  obtain ⟨n, hn⟩ : ∃ n, s.size - k = n + 1 := ⟨s.size - k - 1, by omega⟩
  have e : s.size - (n + 1) = k := by omega
  rw [hn, fstB, e, if_pos hp]
theorem fstB_no (s : ByteArray) (p : Int → Bool) (k : Nat) (h : k < s.size) (hp : p (byteAt s k) = false) : fstB s p (s.size - k) = fstB s p (s.size - (k + 1)) := by
  obtain ⟨n, hn⟩ : ∃ n, s.size - k = n + 1 := ⟨s.size - k - 1, by omega⟩
  have e : s.size - (n + 1) = k := by omega
  have e2 : s.size - (k + 1) = n := by omega
  rw [hn, fstB, e, e2, if_neg (by simp [hp])]
theorem fstB_end (s : ByteArray) (p : Int → Bool) (k : Nat) (h : s.size ≤ k) : fstB s p (s.size - k) = -1 := by
  rw [show s.size - k = 0 by omega]; rfl

theorem fst_spec (s : ByteArray) (p : Int → Bool) : (fst s p = -1 ∧ ∀ j, j < s.size → p (byteAt s j) = false) ∨ (∃ m : Nat, m < s.size ∧ fst s p = m ∧ p (byteAt s m) = true ∧ ∀ j, j < m → p (byteAt s j) = false) := by
  suffices h : ∀ n k, s.size - k = n → k ≤ s.size → (∀ j, j < k → p (byteAt s j) = false) → (fstB s p n = -1 ∧ ∀ j, j < s.size → p (byteAt s j) = false) ∨ (∃ m : Nat, m < s.size ∧ fstB s p n = m ∧ p (byteAt s m) = true ∧ ∀ j, j < m → p (byteAt s j) = false) from h s.size 0 (by omega) (by omega) (fun j hj => by omega)
  intro n
  induction n with
  | zero => intro k hk hk2 h; exact .inl ⟨rfl, fun j hj => h j (by omega)⟩
  | succ n ih =>
    intro k hk hk2 h
    have e : s.size - (n + 1) = k := by omega
    rw [fstB, e]
    by_cases hp : p (byteAt s k) = true
    · rw [if_pos hp]; exact .inr ⟨k, by omega, rfl, hp, h⟩
    · rw [if_neg hp]
      refine ih (k + 1) (by omega) (by omega) (fun j hj => ?_)
      by_cases e : j < k
      · exact h j e
      · obtain rfl : j = k := by omega
        simpa using hp

theorem fst_range (s : ByteArray) (p : Int → Bool) : -1 ≤ fst s p ∧ fst s p < s.size ∨ fst s p = -1 := by
  rcases fst_spec s p with ⟨h, _⟩ | ⟨m, h1, h2, _⟩
  · exact .inr h
  · left; omega

/-- The last place of a byte of some kind among the first n; -1 if there is none. -/
def lstB (s : ByteArray) (p : Int → Bool) : Nat → Int
  | 0 => -1
  | n + 1 => if p (byteAt s n) then (n : Int) else lstB s p n
def lst (s : ByteArray) (p : Int → Bool) : Int := lstB s p s.size

theorem lstB_spec (s : ByteArray) (p : Int → Bool) : ∀ n, (lstB s p n = -1 ∧ ∀ j, j < n → p (byteAt s j) = false) ∨ (∃ m : Nat, m < n ∧ lstB s p n = m ∧ p (byteAt s m) = true ∧ ∀ j, m < j → j < n → p (byteAt s j) = false)
  | 0 => .inl ⟨rfl, fun j h => by omega⟩
  | n + 1 => by
    rw [lstB]
    by_cases hp : p (byteAt s n) = true
    · rw [if_pos hp]; exact .inr ⟨n, by omega, rfl, hp, fun j h1 h2 => by omega⟩
    · rw [if_neg hp]
      rcases lstB_spec s p n with ⟨h1, h2⟩ | ⟨m, h1, h2, h3, h4⟩
      · refine .inl ⟨h1, fun j hj => ?_⟩
        by_cases e : j < n
        · exact h2 j e
        · obtain rfl : j = n := by omega
          simpa using hp
      · refine .inr ⟨m, by omega, h2, h3, fun j h5 h6 => ?_⟩
        by_cases e : j < n
        · exact h4 j h5 e
        · obtain rfl : j = n := by omega
          simpa using hp
theorem lst_range (s : ByteArray) (p : Int → Bool) (n : Nat) : -1 ≤ lstB s p n ∧ lstB s p n < n := by
  rcases lstB_spec s p n with ⟨h, _⟩ | ⟨m, h1, h2, _⟩ <;> omega

/-- A line feed. -/
def isNl (c : Int) : Bool := c == 10

/-- The lines of a text. -/
def linesN : Nat → ByteArray → List ByteArray
  | 0, s => [s]
  | n + 1, s => if fst s isNl < 0 then [s] else s.extract 0 (fst s isNl).toNat :: linesN n (s.extract ((fst s isNl).toNat + 1) s.size)
def lines (s : ByteArray) : List ByteArray := linesN s.size s

theorem linesN_fuel : ∀ (m n : Nat) (s : ByteArray), s.size ≤ m → s.size ≤ n → linesN m s = linesN n s
  | 0, n, s, hm, _ => by
    cases n with
    | zero => rfl
    | succ n =>
      rcases fst_spec s isNl with ⟨h, _⟩ | ⟨k, h1, _⟩
      · rw [linesN, linesN, if_pos (by omega)]
      · omega
  | m + 1, 0, s, _, hn => by
      rcases fst_spec s isNl with ⟨h, _⟩ | ⟨k, h1, _⟩
      · rw [linesN, linesN, if_pos (by omega)]
      · omega
  | m + 1, n + 1, s, hm, hn => by
    rw [linesN, linesN]
    by_cases h : fst s isNl < 0
    · rw [if_pos h, if_pos h]
    · rw [if_neg h, if_neg h]
      rcases fst_spec s isNl with ⟨h', _⟩ | ⟨k, h1, h2, _⟩
      · omega
      · rw [linesN_fuel m n _ (by rw [ByteArray.size_extract]; omega) (by rw [ByteArray.size_extract]; omega)]

theorem lines_one (s : ByteArray) (h : fst s isNl < 0) : lines s = [s] := by
  unfold lines
  cases hs : s.size with
  | zero => rfl
  | succ n => rw [linesN, if_pos h]

theorem lines_more (s : ByteArray) (m : Nat) (h : fst s isNl = m) : lines s = s.extract 0 m :: lines (s.extract (m + 1) s.size) := by
  have hm : m < s.size := by
    rcases fst_spec s isNl with ⟨h', _⟩ | ⟨k, h1, h2, _⟩ <;> omega
  unfold lines
  obtain ⟨n, hn⟩ : ∃ n, s.size = n + 1 := ⟨s.size - 1, by omega⟩
  rw [hn, linesN, if_neg (by omega), h, Int.toNat_natCast, ← hn]
  rw [linesN_fuel n (s.extract (m + 1) s.size).size _ (by rw [ByteArray.size_extract]; omega) (Nat.le_refl _)]

theorem lines_ne (s : ByteArray) : lines s ≠ [] := by
  rcases fst_spec s isNl with ⟨h, _⟩ | ⟨m, _, h, _⟩
  · rw [lines_one s (by omega)]; simp
  · rw [lines_more s m h]; simp

/-- How many line feeds there are among the first bytes. -/
def nl (s : ByteArray) : Nat → Nat
  | 0 => 0
  | i + 1 => nl s i + if isNl (byteAt s i) then 1 else 0

theorem nl_none (s : ByteArray) : ∀ i, (∀ j, j < i → isNl (byteAt s j) = false) → nl s i = 0
  | 0, _ => rfl
  | i + 1, h => by rw [nl, nl_none s i fun j hj => h j (by omega), if_neg (by simp [h i (by omega)])]

theorem nl_mono (s : ByteArray) : ∀ j i, i ≤ j → nl s i ≤ nl s j
  | 0, i, h => by obtain rfl : i = 0 := by omega
                  exact Nat.le_refl _
  | j + 1, i, h => by
    by_cases e : i = j + 1
    · rw [e]; exact Nat.le_refl _
    · have := nl_mono s j i (by omega)
      rw [nl]; omega

theorem nl_past (s : ByteArray) (m : Nat) (hm : m < s.size) (hp : isNl (byteAt s m) = true) (h : ∀ j, j < m → isNl (byteAt s j) = false) :
    ∀ i, m + 1 + i ≤ s.size → nl s (m + 1 + i) = 1 + nl (s.extract (m + 1) s.size) i
  | 0, _ => by
    show nl s (m + 1) = 1 + 0
    rw [nl, nl_none s m h, if_pos hp]
  | i + 1, hi => by
    have ih := nl_past s m hm hp h i (by omega)
    rw [show m + 1 + (i + 1) = (m + 1 + i) + 1 from rfl, nl, ih, nl, byteAt_extract s (m + 1) i s.size (by omega)]
    omega

/-- Where a line begins. -/
def startOf (ls : List ByteArray) (k : Nat) : Nat := ((ls.take k).map fun l => l.size + 1).sum
theorem startOf_zero (ls : List ByteArray) : startOf ls 0 = 0 := by simp [startOf]
theorem startOf_cons (l : ByteArray) (ls : List ByteArray) (k : Nat) : startOf (l :: ls) (k + 1) = l.size + 1 + startOf ls k := by simp [startOf]
theorem startOf_succ (ls : List ByteArray) (k : Nat) (h : k < ls.length) : startOf ls (k + 1) = startOf ls k + ((ls[k]'h).size + 1) := by
  unfold startOf
  rw [List.take_succ_eq_append_getElem h, List.map_append, List.sum_append]
  simp only [List.map_cons, List.map_nil, List.sum_cons, List.sum_nil, Nat.add_zero]

theorem lines_law (s : ByteArray) : (lines s).length = nl s s.size + 1 ∧ startOf (lines s) (lines s).length = s.size + 1 ∧ ∀ k i, k < (lines s).length → i ≤ s.size → (startOf (lines s) k ≤ i ↔ k ≤ nl s i) := by
  suffices h : ∀ n (s : ByteArray), s.size ≤ n → (lines s).length = nl s s.size + 1 ∧ startOf (lines s) (lines s).length = s.size + 1 ∧ ∀ k i, k < (lines s).length → i ≤ s.size → (startOf (lines s) k ≤ i ↔ k ≤ nl s i) from h s.size s (Nat.le_refl _)
  intro n
  induction n with
  | zero =>
    intro s hs
    rcases fst_spec s isNl with ⟨h, hj⟩ | ⟨m, h1, _⟩
    · rw [lines_one s (by omega)]
      refine ⟨by rw [nl_none s _ hj]; rfl, by simp [startOf], fun k i hk hi => ?_⟩
      obtain rfl : k = 0 := by simpa using hk
      simp [startOf]
    · omega
  | succ n ih =>
    intro s hs
    rcases fst_spec s isNl with ⟨h, hj⟩ | ⟨m, h1, h2, h3, h4⟩
    · rw [lines_one s (by omega)]
      refine ⟨by rw [nl_none s _ hj]; rfl, by simp [startOf], fun k i hk hi => ?_⟩
      obtain rfl : k = 0 := by simpa using hk
      simp [startOf]
    · obtain ⟨i1, i2, i3⟩ := ih (s.extract (m + 1) s.size) (by rw [ByteArray.size_extract]; omega)
      have hsz : (s.extract (m + 1) s.size).size = s.size - (m + 1) := by rw [ByteArray.size_extract]; omega
      have hsm : (s.extract 0 m).size = m := by rw [ByteArray.size_extract]; omega
      have hp := nl_past s m h1 h3 h4
      rw [lines_more s m h2]
      refine ⟨?_, ?_, fun k i hk hi => ?_⟩
      · have := hp (s.size - (m + 1)) (by omega)
        rw [show m + 1 + (s.size - (m + 1)) = s.size by omega] at this
        rw [List.length_cons, i1, this, hsz]; omega
      · rw [List.length_cons, startOf_cons, i2, hsm, hsz]; omega
      · match k, hk with
        | 0, _ => simp [startOf]
        | k + 1, hk =>
          rw [startOf_cons, hsm]
          simp at hk
          by_cases e : m + 1 ≤ i
          · have := hp (i - (m + 1)) (by omega)
            rw [show m + 1 + (i - (m + 1)) = i by omega] at this
            rw [this]
            have := i3 k (i - (m + 1)) (by omega) (by omega)
            omega
          · have h0 : nl s i = 0 := nl_none s i fun j hj => h4 j (by omega)
            rw [h0]
            omega

/-- Where the line of a place begins. -/
theorem start_le (s : ByteArray) (i : Nat) (hi : i ≤ s.size) : nl s i < (lines s).length ∧ startOf (lines s) (nl s i) ≤ i := by
  obtain ⟨h1, h2, h3⟩ := lines_law s
  have h4 := nl_mono s s.size i hi
  exact ⟨by omega, (h3 (nl s i) i (by omega) hi).2 (Nat.le_refl _)⟩

theorem start_next (s : ByteArray) (i : Nat) (hi : i < s.size) (h : isNl (byteAt s i) = true) : startOf (lines s) (nl s i + 1) = i + 1 := by
  obtain ⟨h1, h2, h3⟩ := lines_law s
  have h4 := nl_mono s s.size (i + 1) (by omega)
  have e : nl s (i + 1) = nl s i + 1 := by rw [nl, if_pos h]
  have a := (h3 (nl s i + 1) (i + 1) (by omega) (by omega)).2 (by omega)
  have b : ¬ startOf (lines s) (nl s i + 1) ≤ i := fun hh => by
    have := (h3 (nl s i + 1) i (by omega) (by omega)).1 hh
    omega
  omega

theorem startOf_mono (ls : List ByteArray) : ∀ j i, i ≤ j → j ≤ ls.length → startOf ls i ≤ startOf ls j
  | 0, i, h, _ => by obtain rfl : i = 0 := by omega
                     exact Nat.le_refl _
  | j + 1, i, h, hl => by
    by_cases e : i = j + 1
    · rw [e]; exact Nat.le_refl _
    · have := startOf_mono ls j i (by omega) (by omega)
      rw [startOf_succ ls j (by omega)]; omega

theorem line_fits (s : ByteArray) (k : Nat) (hk : k < (lines s).length) : startOf (lines s) k + (((lines s)[k]'hk).size) ≤ s.size := by
  obtain ⟨h1, h2, h3⟩ := lines_law s
  have a := startOf_succ (lines s) k hk
  have b := startOf_mono (lines s) (lines s).length (k + 1) (by omega) (Nat.le_refl _)
  omega

theorem lines_len (s : ByteArray) : (lines s).length ≤ s.size + 1 := by
  obtain ⟨h1, h2, h3⟩ := lines_law s
  suffices h : ∀ i, nl s i ≤ i by have := h s.size; omega
  intro i
  induction i with
  | zero => exact Nat.le_refl _
  | succ i ih => rw [nl]; split <;> omega

theorem lines_ascii (s : ByteArray) (h : IsAscii s) : ∀ l ∈ lines s, IsAscii l := by
  suffices H : ∀ n (s : ByteArray), s.size ≤ n → IsAscii s → ∀ l ∈ lines s, IsAscii l from H s.size s (Nat.le_refl _) h
  intro n
  induction n with
  | zero =>
    intro s hs h l hl
    rcases fst_spec s isNl with ⟨h', _⟩ | ⟨m, h1, _⟩
    · rw [lines_one s (by omega)] at hl
      obtain rfl : l = s := by simpa using hl
      exact h
    · omega
  | succ n ih =>
    intro s hs h l hl
    rcases fst_spec s isNl with ⟨h', _⟩ | ⟨m, h1, h2, _⟩
    · rw [lines_one s (by omega)] at hl
      obtain rfl : l = s := by simpa using hl
      exact h
    · rw [lines_more s m h2] at hl
      rcases List.mem_cons.1 hl with rfl | hl
      · exact h.extract _ _
      · exact ih _ (by rw [ByteArray.size_extract]; omega) (h.extract _ _) l hl
end Go.Proofs.Ytedjjimabchffaa
