/- Plain facts on texts and their code points; no program in sight, but for the conversion's own entry. -/
import Derived.Test.YtbibokkclejapaaDoorWords
import Derived.Lib.OthersKept
namespace Go.Proofs.YtbibokkclejapaaDoor
open Go.RowKit
set_option linter.unusedVariables false
set_option linter.unusedSimpArgs false

/-- A list's number at a place; 0 beyond. -/
def nth (zs : List Int) (k : Nat) : Int := zs.getD k 0
theorem nth_eq (zs : List Int) (k : Nat) (h : k < zs.length) : nth zs k = zs[k] := by simp [nth, h]

/-- The code points of a text from a place on, at most n of them. -/
def runesAt (s : ByteArray) : Nat → Nat → List Int
  | 0, _ => []
  | n + 1, i => if i < s.size then ((Utf8.decode s i).1 : Int) :: runesAt s n (i + (Utf8.decode s i).2) else []
/-- The code points of a text. -/
def runes (s : ByteArray) : List Int := runesAt s s.size 0

theorem runesFrom_eq (s : ByteArray) : ∀ (n i : Nat) (acc : Array Value), Conv.runesFrom s n i acc = acc ++ ((runesAt s n i).map (Value.int .i32)).toArray
  | 0, i, acc => by simp [Conv.runesFrom, runesAt]
  | n + 1, i, acc => by
    unfold Conv.runesFrom runesAt
    split
    · show Conv.runesFrom s n (i + (Utf8.decode s i).2) (acc.push (.int .i32 (Int.ofNat (Utf8.decode s i).1))) = _
      rw [runesFrom_eq s n]
      simp
    · simp

theorem runesAt_length (s : ByteArray) : ∀ n i, (runesAt s n i).length ≤ n
  | 0, i => by simp [runesAt]
  | n + 1, i => by
    have := runesAt_length s n (i + (Utf8.decode s i).2)
    unfold runesAt
    split
    · simp; omega
    · simp

theorem runes_length (s : ByteArray) : (runes s).length ≤ s.size := runesAt_length s _ _

theorem runesFrom_runes (s : ByteArray) : Conv.runesFrom s s.size 0 #[] = ((runes s).map (Value.int .i32)).toArray := by
  rw [runesFrom_eq]; simp [runes]

/-- The capacity that a conversion draws, and the cells that it lays. -/
def runeCap (w : World) (e : TypeId) (s : ByteArray) : Nat := grownCap w (runes s).length 0 e
def runeCells (s : ByteArray) (c : Nat) : Array Value := ((runes s).map (Value.int .i32)).toArray ++ Array.replicate (c - (runes s).length) (.int .i32 0)

theorem runeCap_ge (w : World) (e : TypeId) (s : ByteArray) : (runes s).length ≤ runeCap w e s := grownCap_ge w _ _ _

theorem runeCells_at (s : ByteArray) (c j : Nat) (h : j < (runes s).length) : (runeCells s c)[j]? = some (.int .i32 (nth (runes s) j)) := by
  unfold runeCells nth
  rw [Array.getElem?_append_left (by simpa using h)]
  simp [h]

theorem run_runes {P : Program} (w : World) (src dst e : TypeId) (s : ByteArray) (hs : P.underlying src = some .string) (hd : P.underlying dst = some (.slice e)) (he : P.underlying e = some (.int .i32)) (h46 : s.size ≤ 70368744177664) :
    (convert src dst (.string s)).run P w = .ok (.slice (some ⟨w.heap.size, 0, none⟩) (runes s).length (runeCap w e s)) (w.drew.alloc (.cells (runeCells s (runeCap w e s)) e)) := by
  have hl : (Conv.runesFrom s s.size 0 #[]).size = (runes s).length := by rw [runesFrom_runes]; simp
  have := run_runes_of_string (P := P) w src dst e s hs hd he (by rw [hl]; have := runes_length s; omega)
  rw [hl, runesFrom_runes] at this
  exact this

theorem lt_of_cell {w : World} {b o : Nat} {v : Value} (h : w.cell? ⟨b, o, none⟩ = some v) : b < w.heap.size := World.block_lt_of_cell? (a := ⟨b, o, none⟩) _ h

theorem width_pos (s : ByteArray) (pos : Nat) (h : pos < s.size) : 1 ≤ (Utf8.decode s pos).2 := by
  by_cases ha : (s[pos]'h).toNat < 128
  · rw [decode_ascii s pos h ha]; exact Nat.le_refl _
  · exact (decode_high s pos h (by omega)).2

/-- Where a text's k-th code point begins. -/
def posAt (s : ByteArray) : Nat → Nat
  | 0 => 0
  | k + 1 => posAt s k + (Utf8.decode s (posAt s k)).2
theorem posAt_mono (s : ByteArray) (k : Nat) : ∀ j, k ≤ j → posAt s k ≤ posAt s j
  | 0, h => by obtain rfl : k = 0 := by omega
               exact Nat.le_refl _
  | j + 1, h => by
    by_cases e : k = j + 1
    · rw [e]; exact Nat.le_refl _
    · exact Nat.le_trans (posAt_mono s k j (by omega)) (Nat.le_add_right _ _)
/-- A place at which a broken sign is told holds the broken sign itself. -/
def GoodAt (s : ByteArray) (p : Nat) : Prop := (Utf8.decode s p).1 = 65533 → (s.extract p (p + 3)).toList = [239, 191, 189]
/-- A text is UTF-8. -/
def Valid (s : ByteArray) : Prop := ∀ k, posAt s k < s.size → GoodAt s (posAt s k)
theorem valid_of (s : ByteArray) (k : Nat) (h : ∀ j, j < k → GoodAt s (posAt s j)) (hk : s.size ≤ posAt s k) : Valid s := fun j hj => by
  by_cases e : j < k
  · exact h j e
  · have := posAt_mono s k j (by omega)
    omega

/-- The first place of a number in a list, counted from k on; -1 if there is none. -/
def firstAt : List Int → Int → Nat → Int
  | [], _, _ => -1
  | z :: zs, c, k => if z = c then k else firstAt zs c (k + 1)
def firstFrom (zs : List Int) (c : Int) (k : Nat) : Int := firstAt (zs.drop k) c k

theorem firstFrom_end (zs : List Int) (c : Int) (k : Nat) (h : zs.length ≤ k) : firstFrom zs c k = -1 := by
  unfold firstFrom; rw [List.drop_eq_nil_of_le h]; rfl
theorem firstFrom_step (zs : List Int) (c : Int) (k : Nat) (h : k < zs.length) : firstFrom zs c k = if nth zs k = c then (k : Int) else firstFrom zs c (k + 1) := by
  unfold firstFrom
  rw [List.drop_eq_getElem_cons h]
  simp [firstAt, nth, List.getD, h]
end Go.Proofs.YtbibokkclejapaaDoor
