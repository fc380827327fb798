/- Texts that lie ahead of the others, merged: Words, Texts, Utf, Ascii, AsciiText, QuietTail, HeldTail, RbBase, RbStep, RbKill, RbWrite, RbCopy. -/
import Derived.Test.YtoimdbmjpkmkfaaDoorRows
import Derived.WalkKit
import Derived.ProofKit
import Derived.WalkLawsBesides
import Derived.WalkSpells
import Derived.Handy
import Derived.Lib.Hide
import Derived.Shelf.Abstract
import Derived.Lib.OthersKept
import Derived.Lib.TrimUEq
import Derived.Lib.MapLaws
import Derived.Laws.Cover4
import Derived.Lib.TrimAscii
import Derived.StillTail
import Derived.Deep.Quiet
import Derived.Deep.QuietTactic
import Derived.BigQuiet
import Derived.Deep.RegionHeld
import Derived.Deep.AppendLies
import Derived.Laws.AppendOwnNone
import Derived.WalkSmall
import Derived.Laws.CopyOwn

/- Plain words that the walks of this seat share. -/
namespace Go.Proofs.YtoimdbmjpkmkfaaDoor
open Go.RowKit

/-- Some bool comes back, the world is as it was. -/
def SomeBool (w : World) (e : Ending) (w' : World) : Prop := ∃ b, e = .returned (.bool b) ∧ w = w'
theorem SomeBool.mk {w : World} {e : Ending} {b : Bool} (h : e = .returned (.bool b)) : SomeBool w e w := ⟨b, h, rfl⟩
end Go.Proofs.YtoimdbmjpkmkfaaDoor

/- Plain facts on texts and their code points; no program in sight, but for the conversion's own entry. -/
namespace Go.Proofs.YtoimdbmjpkmkfaaDoor
open Go.RowKit
set_option linter.unusedVariables false
set_option linter.unusedSimpArgs false

/-- A list's number at a place; 0 beyond. -/
def nth (zs : List Int) (k : Nat) : Int := zs.getD k 0
theorem nth_eq (zs : List Int) (k : Nat) (h : k < zs.length) : nth zs k = zs[k] := by simp [nth, h]

/-- The code points of a text from a place on, at most n of them. -/
def runesAt (s : ByteArray) : Nat → Nat → List Int
  | 0, _ => []
  | n + 1, i => if i < s.size then ((Utf8.decode s i).1 : Int) :: runesAt s n (i + (Utf8.decode s i).2) else []
/-- The code points of a text. -/
def runes (s : ByteArray) : List Int := runesAt s s.size 0

theorem runesFrom_eq (s : ByteArray) : ∀ (n i : Nat) (acc : Array Value), Conv.runesFrom s n i acc = acc ++ ((runesAt s n i).map (Value.int .i32)).toArray
  | 0, i, acc => by simp [Conv.runesFrom, runesAt]
  | n + 1, i, acc => by
    unfold Conv.runesFrom runesAt
    split
    · show Conv.runesFrom s n (i + (Utf8.decode s i).2) (acc.push (.int .i32 (Int.ofNat (Utf8.decode s i).1))) = _
      rw [runesFrom_eq s n]
      simp
    · simp

theorem runesAt_length (s : ByteArray) : ∀ n i, (runesAt s n i).length ≤ n
  | 0, i => by simp [runesAt]
  | n + 1, i => by
    have := runesAt_length s n (i + (Utf8.decode s i).2)
    unfold runesAt
    split
    · simp; omega
    · simp

theorem runes_length (s : ByteArray) : (runes s).length ≤ s.size := runesAt_length s _ _

theorem runesFrom_runes (s : ByteArray) : Conv.runesFrom s s.size 0 #[] = ((runes s).map (Value.int .i32)).toArray := by
  rw [runesFrom_eq]; simp [runes]

/-- The capacity that a conversion draws, and the cells that it lays. -/
def runeCap (w : World) (e : TypeId) (s : ByteArray) : Nat := grownCap w (runes s).length 0 e
def runeCells (s : ByteArray) (c : Nat) : Array Value := ((runes s).map (Value.int .i32)).toArray ++ Array.replicate (c - (runes s).length) (.int .i32 0)

theorem runeCap_ge (w : World) (e : TypeId) (s : ByteArray) : (runes s).length ≤ runeCap w e s := grownCap_ge w _ _ _

theorem runeCells_at (s : ByteArray) (c j : Nat) (h : j < (runes s).length) : (runeCells s c)[j]? = some (.int .i32 (nth (runes s) j)) := by
  unfold runeCells nth
  rw [Array.getElem?_append_left (by simpa using h)]
  simp [h]

theorem run_runes {P : Program} (w : World) (src dst e : TypeId) (s : ByteArray) (hs : P.underlying src = some .string) (hd : P.underlying dst = some (.slice e)) (he : P.underlying e = some (.int .i32)) (h46 : s.size ≤ 70368744177664) :
    (convert src dst (.string s)).run P w = .ok (.slice (some ⟨w.heap.size, 0, none⟩) (runes s).length (runeCap w e s)) (w.drew.alloc (.cells (runeCells s (runeCap w e s)) e)) := by
  have hl : (Conv.runesFrom s s.size 0 #[]).size = (runes s).length := by rw [runesFrom_runes]; simp
  have := run_runes_of_string (P := P) w src dst e s hs hd he (by rw [hl]; have := runes_length s; omega)
  rw [hl, runesFrom_runes] at this
  exact this

theorem lt_of_cell {w : World} {b o : Nat} {v : Value} (h : w.cell? ⟨b, o, none⟩ = some v) : b < w.heap.size := World.block_lt_of_cell? (a := ⟨b, o, none⟩) _ h

theorem width_pos (s : ByteArray) (pos : Nat) (h : pos < s.size) : 1 ≤ (Utf8.decode s pos).2 := by
  by_cases ha : (s[pos]'h).toNat < 128
  · rw [decode_ascii s pos h ha]; exact Nat.le_refl _
  · exact (decode_high s pos h (by omega)).2

/-- Where a text's k-th code point begins. -/
def posAt (s : ByteArray) : Nat → Nat
  | 0 => 0
  | k + 1 => posAt s k + (Utf8.decode s (posAt s k)).2
theorem posAt_mono (s : ByteArray) (k : Nat) : ∀ j, k ≤ j → posAt s k ≤ posAt s j
  | 0, h => by obtain rfl : k = 0 := by omega
               exact Nat.le_refl _
  | j + 1, h => by
    by_cases e : k = j + 1
    · rw [e]; exact Nat.le_refl _
    · exact Nat.le_trans (posAt_mono s k j (by omega)) (Nat.le_add_right _ _)
/-- A place at which a broken sign is told holds the broken sign itself. -/
def GoodAt (s : ByteArray) (p : Nat) : Prop := (Utf8.decode s p).1 = 65533 → (s.extract p (p + 3)).toList = [239, 191, 189]
/-- A text is UTF-8. -/
def Valid (s : ByteArray) : Prop := ∀ k, posAt s k < s.size → GoodAt s (posAt s k)
theorem valid_of (s : ByteArray) (k : Nat) (h : ∀ j, j < k → GoodAt s (posAt s j)) (hk : s.size ≤ posAt s k) : Valid s := fun j hj => by
  by_cases e : j < k
  · exact h j e
  · have := posAt_mono s k j (by omega)
    omega

/-- The first place of a number in a list, counted from k on; -1 if there is none. -/
def firstAt : List Int → Int → Nat → Int
  | [], _, _ => -1
  | z :: zs, c, k => if z = c then k else firstAt zs c (k + 1)
def firstFrom (zs : List Int) (c : Int) (k : Nat) : Int := firstAt (zs.drop k) c k

theorem firstFrom_end (zs : List Int) (c : Int) (k : Nat) (h : zs.length ≤ k) : firstFrom zs c k = -1 := by
  unfold firstFrom; rw [List.drop_eq_nil_of_le h]; rfl
theorem firstFrom_step (zs : List Int) (c : Int) (k : Nat) (h : k < zs.length) : firstFrom zs c k = if nth zs k = c then (k : Int) else firstFrom zs c (k + 1) := by
  unfold firstFrom
  rw [List.drop_eq_getElem_cons h]
  simp [firstAt, nth, List.getD, h]
end Go.Proofs.YtoimdbmjpkmkfaaDoor

/- Plain facts on UTF-8: what is encoded is decoded again, and what is decoded without a fault is encoded to the same bytes. -/
namespace Go.Proofs.YtoimdbmjpkmkfaaDoor
open Go.RowKit
set_option linter.unusedVariables false
set_option linter.unusedSimpArgs false

/-- A number is a code point that can be written. -/
def Scalar (r : Int) : Prop := (0 ≤ r ∧ r < 55296) ∨ (57343 < r ∧ r ≤ 1114111)

theorem decode_scalar (l : List UInt8) : Scalar ((Lib.decodeL l).1 : Int) := by
  rw [Lib.decodeL_N]
  unfold Lib.decodeN Scalar
  repeat' (first | omega | split)

theorem byte_toNat (z : Int) (h0 : 0 ≤ z) (h1 : z < 256) : ((z.toNat.toUInt8).toNat : Int) = z := by simp [Nat.toUInt8]; omega

theorem decode_encode (r : Int) (hr : Scalar r) (t : List UInt8) : Lib.decodeL (Lib.encodeRune r ++ t) = (r.toNat, (Lib.encodeRune r).length) := by
  obtain ⟨n, rfl⟩ := Int.eq_ofNat_of_zero_le (show 0 ≤ r by unfold Scalar at hr; omega)
  unfold Scalar at hr
  unfold Lib.encodeRune
  rw [Lib.decodeL_N]
  by_cases h1 : (n : Int) ≤ 127
  · rw [Lib.encodeRuneZ_one (by omega) h1]
    simp [Lib.decodeN, Nat.toUInt8]
    rw [if_pos (by omega)]
    simp; omega
  by_cases h2 : (n : Int) ≤ 2047
  · rw [Lib.encodeRuneZ_two (by omega) h2]
    have e0 := byte_toNat (192 + (n : Int) / 64) (by omega) (by omega)
    have e1 := byte_toNat (128 + (n : Int) % 64) (by omega) (by omega)
    simp only [List.map_cons, List.map_nil, List.cons_append, List.nil_append, List.length_cons, List.getD_cons_zero, List.getD_cons_succ, List.length_nil]
    generalize (192 + (n : Int) / 64).toNat.toUInt8 = b0 at e0 ⊢
    generalize (128 + (n : Int) % 64).toNat.toUInt8 = b1 at e1 ⊢
    unfold Lib.decodeN
    rw [if_neg (by omega), if_pos (by omega), if_pos (by omega)]
    simp; omega
  by_cases h3 : (n : Int) ≤ 65535
  · rw [Lib.encodeRuneZ_three (by omega)]
    have e0 := byte_toNat (224 + (n : Int) / 4096) (by omega) (by omega)
    have e1 := byte_toNat (128 + (n : Int) / 64 % 64) (by omega) (by omega)
    have e2 := byte_toNat (128 + (n : Int) % 64) (by omega) (by omega)
    simp only [List.map_cons, List.map_nil, List.cons_append, List.nil_append, List.length_cons, List.getD_cons_zero, List.getD_cons_succ, List.length_nil]
    generalize (224 + (n : Int) / 4096).toNat.toUInt8 = b0 at e0 ⊢
    generalize (128 + (n : Int) / 64 % 64).toNat.toUInt8 = b1 at e1 ⊢
    generalize (128 + (n : Int) % 64).toNat.toUInt8 = b2 at e2 ⊢
    unfold Lib.decodeN
    rw [if_neg (by omega), if_neg (by omega), if_pos (by omega), if_pos (by omega)]
    simp; omega
  · rw [Lib.encodeRuneZ_four (by omega) (by omega)]
    have e0 := byte_toNat (240 + (n : Int) / 262144) (by omega) (by omega)
    have e1 := byte_toNat (128 + (n : Int) / 4096 % 64) (by omega) (by omega)
    have e2 := byte_toNat (128 + (n : Int) / 64 % 64) (by omega) (by omega)
    have e3 := byte_toNat (128 + (n : Int) % 64) (by omega) (by omega)
    simp only [List.map_cons, List.map_nil, List.cons_append, List.nil_append, List.length_cons, List.getD_cons_zero, List.getD_cons_succ, List.length_nil]
    generalize (240 + (n : Int) / 262144).toNat.toUInt8 = b0 at e0 ⊢
    generalize (128 + (n : Int) / 4096 % 64).toNat.toUInt8 = b1 at e1 ⊢
    generalize (128 + (n : Int) / 64 % 64).toNat.toUInt8 = b2 at e2 ⊢
    generalize (128 + (n : Int) % 64).toNat.toUInt8 = b3 at e3 ⊢
    unfold Lib.decodeN
    rw [if_neg (by omega), if_neg (by omega), if_neg (by omega), if_pos (by omega), if_pos (by omega)]
    simp; omega

/-- The code points of a list of bytes, at most n of them. -/
def runesN : Nat → List UInt8 → List Int
  | 0, _ => []
  | n + 1, l => if l = [] then [] else ((Lib.decodeL l).1 : Int) :: runesN n (l.drop (Lib.decodeL l).2)
def runesL (l : List UInt8) : List Int := runesN l.length l

theorem decodeL_pos (l : List UInt8) : 1 ≤ (Lib.decodeL l).2 := by
  rw [Lib.decodeL_N]
  unfold Lib.decodeN
  repeat' (first | omega | split)

theorem runesN_nil (n : Nat) : runesN n [] = [] := by cases n <;> simp [runesN]

theorem runesN_fuel : ∀ (m n : Nat) (l : List UInt8), l.length ≤ m → l.length ≤ n → runesN m l = runesN n l
  | 0, n, l, hm, _ => by
    obtain rfl : l = [] := List.eq_nil_of_length_eq_zero (by omega)
    rw [runesN_nil, runesN_nil]
  | m + 1, n, l, hm, hn => by
    by_cases e : l = []
    · subst e; rw [runesN_nil, runesN_nil]
    · have hl : 0 < l.length := List.length_pos_iff.2 e
      obtain ⟨n, rfl⟩ : ∃ j, n = j + 1 := ⟨n - 1, by omega⟩
      have hp := decodeL_pos l
      simp only [runesN, if_neg e]
      rw [runesN_fuel m n _ (by simp; omega) (by simp; omega)]

theorem runesL_cons (l : List UInt8) (h : l ≠ []) : runesL l = ((Lib.decodeL l).1 : Int) :: runesL (l.drop (Lib.decodeL l).2) := by
  have hl : 0 < l.length := List.length_pos_iff.2 h
  have hp := decodeL_pos l
  unfold runesL
  obtain ⟨n, hn⟩ : ∃ n, l.length = n + 1 := ⟨l.length - 1, by omega⟩
  rw [hn]
  simp only [runesN, if_neg h]
  rw [runesN_fuel n (l.drop (Lib.decodeL l).2).length _ (by simp; omega) (Nat.le_refl _)]

theorem runesL_nil : runesL [] = [] := rfl

/-- Code points as bytes. -/
def enc (zs : List Int) : List UInt8 := zs.flatMap Lib.encodeRune
theorem enc_nil : enc [] = [] := rfl
theorem enc_cons (z : Int) (zs : List Int) : enc (z :: zs) = Lib.encodeRune z ++ enc zs := rfl
theorem enc_append (a b : List Int) : enc (a ++ b) = enc a ++ enc b := by simp [enc]

theorem encodeRune_ne (r : Int) : Lib.encodeRune r ≠ [] := by
  have := (Lib.encodeRuneZ_length r).1
  intro e
  have : (Lib.encodeRune r).length = 0 := by rw [e]; rfl
  simp [Lib.encodeRune] at this
  simp [this] at *

theorem runesL_enc : ∀ (zs : List Int) (t : List UInt8), (∀ z ∈ zs, Scalar z) → runesL (enc zs ++ t) = zs ++ runesL t
  | [], t, _ => rfl
  | z :: zs, t, h => by
    rw [enc_cons, List.append_assoc]
    have hz := h z (by simp)
    rw [runesL_cons _ (by simp [encodeRune_ne]), decode_encode z hz]
    have h0 : 0 ≤ z := by unfold Scalar at hz; omega
    rw [List.drop_left, runesL_enc zs t fun x hx => h x (by simp [hx])]
    simp [Int.toNat_of_nonneg h0]

theorem runesL_of_enc (zs : List Int) (h : ∀ z ∈ zs, Scalar z) : runesL (enc zs) = zs := by
  have := runesL_enc zs [] h
  simpa [runesL_nil] using this

theorem runesL_scalar (l : List UInt8) : ∀ z ∈ runesL l, Scalar z := by
  suffices h : ∀ n l, ∀ z ∈ runesN n l, Scalar z from h _ l
  intro n
  induction n with
  | zero => intro l z hz; simp [runesN] at hz
  | succ n ih =>
    intro l z hz
    simp only [runesN] at hz
    split at hz
    · simp at hz
    · rcases List.mem_cons.1 hz with rfl | hz
      · exact decode_scalar l
      · exact ih _ z hz

theorem runesAt_N (s : ByteArray) : ∀ n i, runesAt s n i = runesN n (s.data.toList.drop i)
  | 0, i => rfl
  | n + 1, i => by
    simp only [runesAt, runesN]
    have e : s.data.toList.length = s.size := by simp
    by_cases h : i < s.size
    · rw [if_pos h, if_neg (by intro e'; have := congrArg List.length e'; simp at this; omega), Lib.decodeL_drop, runesAt_N s n, List.drop_drop]
    · rw [if_neg h, if_pos (List.drop_eq_nil_of_le (by omega))]

theorem runes_L (s : ByteArray) : runes s = runesL s.data.toList := by
  unfold runes runesL
  rw [runesAt_N]
  simp

theorem runes_scalar (s : ByteArray) : ∀ z ∈ runes s, Scalar z := by rw [runes_L]; exact runesL_scalar _

/-- A text that is UTF-8 is made of its code points. -/
theorem enc_runes (s : ByteArray) (hv : Valid s) : enc (runes s) = s.data.toList := by
  have hlen : s.data.toList.length = s.size := by simp
  suffices h : ∀ n k, s.size ≤ posAt s k + n → enc (runesN n (s.data.toList.drop (posAt s k))) = s.data.toList.drop (posAt s k) by
    have := h s.size 0 (by omega)
    rw [runes_L]
    unfold runesL
    rw [hlen]
    simpa [posAt] using this
  intro n
  induction n with
  | zero =>
    intro k hk
    rw [List.drop_eq_nil_of_le (by omega)]; rfl
  | succ n ih =>
    intro k hk
    by_cases hp : posAt s k < s.size
    · have hne : s.data.toList.drop (posAt s k) ≠ [] := by intro e; have := congrArg List.length e; simp at this; omega
      simp only [runesN, if_neg hne, enc_cons]
      have hd := Lib.decodeL_drop s (posAt s k)
      have hw := width_pos s (posAt s k) hp
      rw [Lib.encode_decode _ hne, hd, List.drop_drop]
      · have := ih (k + 1) (by show _ ≤ posAt s k + (Utf8.decode s (posAt s k)).2 + n; omega)
        simp only [posAt] at this
        rw [this, ← List.drop_drop, List.take_append_drop]
      · rw [hd]
        rintro ⟨e1, e2⟩
        have hg := hv k hp e1
        have hl : (s.data.toList.drop (posAt s k)).take 3 = [239, 191, 189] := by
          have h3 : (s.extract (posAt s k) (posAt s k + 3)).toList = (s.data.toList.drop (posAt s k)).take 3 := by
            rw [ByteArray.toList_eq]
            simp
          rw [← h3]; exact hg
        have hdd : Lib.decodeL (s.data.toList.drop (posAt s k)) = (65533, 3) := by
          rw [← List.take_append_drop 3 (s.data.toList.drop (posAt s k)), hl]
          exact decode_encode 65533 (by unfold Scalar; omega) _
        rw [hd] at hdd
        rw [hdd] at e2
        exact absurd e2 (by decide)
    · rw [List.drop_eq_nil_of_le (by omega), runesN_nil]; rfl

theorem u8_eq (a b : Nat) (h : a = b) : UInt8.ofNat a = b.toUInt8 := by subst h; rfl

theorem two_eq {a b : UInt8} {l m : List UInt8} (h : a = b) (k : l = m) : a :: l = b :: m := by rw [h, k]

theorem encode_list (r : Int) : (Utf8.encode r).data.toList = Lib.encodeRune r := by
  unfold Lib.encodeRune
  by_cases hv : Utf8.valid r = true
  · have hs : Scalar r := by
      rw [validRune_eq] at hv
      simpa [validRune, Scalar] using hv
    unfold Scalar at hs
    obtain ⟨n, rfl⟩ := Int.eq_ofNat_of_zero_le (show 0 ≤ r by omega)
    unfold Utf8.encode
    simp only [hv, if_true, Int.toNat_natCast]
    by_cases h1 : n < 128
    · rw [if_pos h1, Lib.encodeRuneZ_one (by omega) (by omega)]
      exact congrArg (· :: []) (u8_eq _ _ (by omega))
    by_cases h2 : n < 2048
    · rw [if_neg h1, if_pos h2, Lib.encodeRuneZ_two (by omega) (by omega)]
      exact two_eq (u8_eq _ _ (by omega)) (two_eq (u8_eq _ _ (by omega)) rfl)
    by_cases h3 : n < 65536
    · rw [if_neg h1, if_neg h2, if_pos h3, Lib.encodeRuneZ_three (by omega)]
      exact two_eq (u8_eq _ _ (by omega)) (two_eq (u8_eq _ _ (by omega)) (two_eq (u8_eq _ _ (by omega)) rfl))
    · rw [if_neg h1, if_neg h2, if_neg h3, Lib.encodeRuneZ_four (by omega) (by omega)]
      exact two_eq (u8_eq _ _ (by omega)) (two_eq (u8_eq _ _ (by omega)) (two_eq (u8_eq _ _ (by omega)) (two_eq (u8_eq _ _ (by omega)) rfl)))
  · have hn : ¬ Scalar r := by
      rw [validRune_eq] at hv
      simpa [validRune, Scalar] using hv
    unfold Scalar at hn
    rw [Lib.encodeRuneZ_bad (by omega)]
    have hv' : Utf8.valid r = false := by simpa using hv
    have he : Utf8.encode r = Utf8.encode 65533 := by unfold Utf8.encode; simp only [hv']; rfl
    rw [he]; decide +kernel

theorem runesBytes_list (zs : List Int) : (runesBytes zs).data.toList = enc zs := by
  suffices h : ∀ (zs : List Int) (a : ByteArray), (zs.foldl (fun r n => r ++ Utf8.encode n) a).data.toList = a.data.toList ++ enc zs by
    have := h zs ByteArray.empty
    simpa [runesBytes] using this
  intro zs
  induction zs with
  | nil => intro a; simp [enc]
  | cons z zs ih =>
    intro a
    rw [List.foldl_cons, ih, enc_cons, ← encode_list z]
    simp

/-- What is written of code points is read again. -/
theorem runes_bytes (zs : List Int) (h : ∀ z ∈ zs, Scalar z) : runes (runesBytes zs) = zs := by
  rw [runes_L, runesBytes_list, runesL_of_enc zs h]
end Go.Proofs.YtoimdbmjpkmkfaaDoor

/- Texts of ASCII and their code points; no program in sight. -/
namespace Go.Proofs.YtoimdbmjpkmkfaaDoor
open Go.RowKit
set_option linter.unusedVariables false
set_option linter.unusedSimpArgs false

/-- A text of ASCII. -/
def IsAscii (s : ByteArray) : Prop := ∀ b ∈ s.data.toList, b.toNat < 128

theorem runesL_ascii : ∀ l : List UInt8, (∀ b ∈ l, b.toNat < 128) → runesL l = l.map fun b => (b.toNat : Int)
  | [], _ => rfl
  | b :: t, h => by
    rw [runesL_cons _ (by simp), Lib.decodeL_ascii b t (h b (by simp))]
    simp only [List.drop_succ_cons, List.drop_zero, List.map_cons]
    rw [runesL_ascii t fun c hc => h c (by simp [hc])]

theorem runes_ascii (s : ByteArray) (h : IsAscii s) : runes s = s.data.toList.map fun b => (b.toNat : Int) := by
  rw [runes_L, runesL_ascii _ h]

theorem runes_ascii_length (s : ByteArray) (h : IsAscii s) : (runes s).length = s.size := by
  rw [runes_ascii s h, List.length_map]; rfl

/-- A text's byte at a place, as a number; 0 beyond. -/
def byteAt (s : ByteArray) (i : Nat) : Int := (((s.data.toList)[i]?.map (·.toNat)).getD 0 : Nat)

theorem nth_ascii (s : ByteArray) (h : IsAscii s) (i : Nat) : nth (runes s) i = byteAt s i := by
  rw [runes_ascii s h]
  unfold nth byteAt
  simp only [List.getD_eq_getElem?_getD, List.getElem?_map]
  cases s.data.toList[i]? <;> rfl

theorem isAscii_of (s : ByteArray) (h : ∀ i, (hi : i < s.size) → (s[i]'hi).toNat < 128) : IsAscii s := fun b hb => by
  obtain ⟨i, hi, rfl⟩ := List.getElem_of_mem hb
  exact h i hi
end Go.Proofs.YtoimdbmjpkmkfaaDoor

/- Texts of ASCII: the text of some of their code points. No program in sight. -/
namespace Go.Proofs.YtoimdbmjpkmkfaaDoor
open Go.RowKit
set_option linter.unusedVariables false
set_option linter.unusedSimpArgs false

theorem enc_ascii : ∀ l : List UInt8, (∀ b ∈ l, b.toNat < 128) → enc (l.map fun b => (b.toNat : Int)) = l
  | [], _ => rfl
  | b :: t, h => by
    have hb := h b (by simp)
    have e : Lib.encodeRune (b.toNat : Int) = [b] := by
      unfold Lib.encodeRune
      rw [Lib.encodeRuneZ_one (by omega) (by omega)]
      simp
    rw [List.map_cons, enc_cons, enc_ascii t fun c hc => h c (by simp [hc]), e]
    rfl

theorem ba_ext {a b : ByteArray} (h : a.data.toList = b.data.toList) : a = b := by
  cases a; cases b; simp at h; rw [h]

theorem extract_list (s : ByteArray) (i j : Nat) : (s.extract i j).data.toList = (s.data.toList.drop i).take (j - i) := by
  simp [ByteArray.data_extract]

/-- The code points of a piece of a text of ASCII, written out. -/
theorem runesBytes_sub (s : ByteArray) (h : IsAscii s) (i j : Nat) : runesBytes (((runes s).drop i).take (j - i)) = s.extract i j := by
  apply ba_ext
  rw [runesBytes_list, runes_ascii s h, extract_list, ← List.map_drop, ← List.map_take, enc_ascii]
  intro b hb
  exact h b (List.mem_of_mem_drop (List.mem_of_mem_take hb))

theorem IsAscii.extract {s : ByteArray} (h : IsAscii s) (i j : Nat) : IsAscii (s.extract i j) := fun b hb => by
  rw [extract_list] at hb
  exact h b (List.mem_of_mem_drop (List.mem_of_mem_take hb))

theorem IsAscii.append {s t : ByteArray} (h : IsAscii s) (k : IsAscii t) : IsAscii (s ++ t) := fun b hb => by
  rw [ByteArray.toList_data_append] at hb
  rcases List.mem_append.1 hb with hb | hb
  · exact h b hb
  · exact k b hb

theorem IsAscii.at {s : ByteArray} (h : IsAscii s) (i : Nat) (hi : i < s.size) : (s[i]'hi).toNat < 128 := h _ (by
  have : s[i]'hi = s.data.toList[i]'(by simpa using hi) := by simp; rfl
  rw [this]; exact List.getElem_mem _)

theorem extract_all (s : ByteArray) : s.extract 0 s.size = s := by
  have : s.data.toList.length = s.size := by simp
  apply ba_ext; rw [extract_list, List.drop_zero, Nat.sub_zero, ← this, List.take_length]

theorem extract_cat (s : ByteArray) (i : Nat) (h : i ≤ s.size) : s.extract 0 i ++ s.extract i s.size = s := by
  apply ba_ext
  have : s.data.toList.length = s.size := by simp
  rw [ByteArray.toList_data_append, extract_list, extract_list, List.drop_zero, Nat.sub_zero, List.take_of_length_le (l := List.drop i s.data.toList) (by rw [List.length_drop, this]; exact Nat.le_refl _), List.take_append_drop]

theorem size_sub (s : ByteArray) (i j : Nat) (h : j ≤ s.size) : (s.extract i j).size = j - i := by
  rw [ByteArray.size_extract]; omega
end Go.Proofs.YtoimdbmjpkmkfaaDoor

/- A region that draws its order: operations that read and call quietly come up in whatever order, then a tail comes up in the one order that its edges allow: one walk serves. -/
namespace Go.Proofs.YtoimdbmjpkmkfaaDoor
open Go
set_option linter.unusedVariables false
set_option linter.unusedSimpArgs false
section
variable {P : Program} {ops : Array Oper} {md : Region.Mode} {C : World → Prop}

/-- As many operations of the first n come up as the number says, whichever they are; L is left. -/
def HeadQ (P : Program) (md : Region.Mode) (ops : Array Oper) (C : World → Prop) (n : Nat) (L : Array Bool → Act → Prop) : Nat → Array Bool → Act → Prop
  | 0, s, a => L s a
  | f + 1, s, a => Region.ready md ops s ≠ [] ∧ ∀ i ∈ Region.ready md ops s, i < n ∧ qOp P ops C i (HeadQ P md ops C n L f (s.setIfInBounds i true)) a

theorem HeadQ.any {n g : Nat} {L : Array Bool → Act → Prop} {Q : Exit → Act → World → Prop} (hL : ∀ s a w, C w → L s a → wpAny P md ops Q g s a w) :
    ∀ (f : Nat) (s : Array Bool) (a : Act) (w : World), C w → HeadQ P md ops C n L f s a → wpAny P md ops Q (f + g) s a w
  | 0, s, a, w, hw, h => by rw [Nat.zero_add]; exact hL _ _ _ hw h
  | f + 1, s, a, w, hw, h => by
    rw [show f + 1 + g = (f + g) + 1 by omega]
    exact ⟨fun h0 => absurd h0 h.1, fun i hi => wpOp_of_qOp hw (fun a' w' hw' h' => HeadQ.any hL f _ a' w' hw' h') (h.2 i hi).2⟩

/-- An operation of the head that may come up may be thought to come up first. -/
theorem HeadQ.first {n i : Nat} {oi : Oper} {v : Value} {L : Array Bool → Act → Prop} (hi : ops[i]? = some oi) (hsel : ∀ (j : Nat) (o : Oper) cs b, ops[j]? = some o → o.op ≠ .select cs b)
    (hs : Region.sinkB md ops n = true) (hc : Region.chainB md ops n = true) (hn : n < ops.size) (hin : i < n) (hdone : ∀ s a, L s a → ∀ j ∈ Region.ready md ops s, n ≤ j)
    (f : Nat) : ∀ (s : Array Bool) (a : Act), HeadInv md ops n s →
      (∀ j oj, ops[j]? = some oj → j ≠ i → s.getD j true = false → (∀ e ∈ oj.after, Region.binds md e = true → e.on ≠ i) → oi.apart ops oj = true) →
      i ∈ Region.ready md ops s → YieldsIn P ops C oi v a → HeadQ P md ops C n L f (s.setIfInBounds i true) (a.put oi.dst v) → HeadQ P md ops C n L (f + 1) s a := by
  have head : ∀ (s : Array Bool), HeadInv md ops n s → s.getD i true = false → ∀ j ∈ Region.ready md ops s, j < n := fun s inv hu j hj =>
    Nat.lt_of_not_le fun h => tail_waits hs hc hn inv _ i rfl hin hu j h hj
  induction f with
  | zero =>
    intro s a inv _ hr hy H
    refine ⟨fun h => (by rw [h] at hr; cases hr), fun j hj => ⟨head s inv (mem_ready.1 hr).1 j hj, ?_⟩⟩
    by_cases e : j = i
    · subst e; exact hy.qOp hi H
    · exact absurd (hdone _ _ H j (ready_mono hj e)) (by have := head s inv (mem_ready.1 hr).1 j hj; omega)
  | succ f ih =>
    intro s a inv free hr hy H
    have hu := (mem_ready.1 hr).1
    refine ⟨fun h => (by rw [h] at hr; cases hr), fun j hj => ⟨head s inv hu j hj, ?_⟩⟩
    by_cases e : j = i
    · subst e; exact hy.qOp hi H
    · obtain ⟨hju, oj, hoj, hall⟩ := mem_ready.1 hj
      have hno : ∀ e ∈ oj.after, Region.binds md e = true → e.on ≠ i := fun e he hb heq => by
        have h1 := hall e he hb
        rw [heq, getD_both hu] at h1
        cases h1
      have h2 := qOp_put hoj (free j oj hoj e hju hno) (fun cs b => hsel i oi cs b hi) (fun cs b => hsel j oj cs b hoj) hy (H.2 j (ready_mono hj e)).2
      refine qOp_mono (fun a' h3 => ih _ a' (inv.set hj (head s inv hu j hj)) (fun k ok hk hki hk2 hk3 => free k ok hk hki ?_ hk3) (ready_mono hr (Ne.symm e)) h3.1 ?_) h2
      · by_cases ejk : j = k
        · subst ejk; exact hju
        · rwa [getD_set_ne true ejk] at hk2
      · rw [Array.setIfInBounds_comm _ _ e]; exact h3.2

theorem HeadQ.lex {n g : Nat} {K : Act → Prop} (hsel : Region.noSelect ops = true) (hs : Region.sinkB md ops n = true) (hc : Region.chainB md ops n = true) (hn : n < ops.size) :
    ∀ (l : List Oper) (k : Nat) (s : Array Bool) (a : Act), (∀ j, j < l.length → l[j]? = ops[k + j]?) → k + l.length = n → HeadInv md ops n s →
    Region.lexHead md ops g l.length k s = true → wpQuiet P ops C K l a →
    HeadQ P md ops C n (fun s' a' => Region.seqB md ops g n s' = true ∧ K a') l.length s a
  | [], k, s, a, _, hk, _, hB, h => by
    obtain rfl : k = n := by simpa using hk
    exact ⟨by simpa [Region.lexHead] using hB, h⟩
  | o :: l, k, s, a, hl, hk, inv, hB, h => by
    have h0 : ops[k]? = some o := by simpa using (hl 0 (by simp)).symm
    simp only [List.length_cons, Region.lexHead, Bool.and_eq_true] at hB
    obtain ⟨⟨hr, hf⟩, hB'⟩ := hB
    have hkn : k < n := by simp only [List.length_cons] at hk; omega
    have hr' : k ∈ Region.ready md ops s := by simpa using hr
    have hq : qOp P ops C k (wpQuiet P ops C K l) a := by unfold qOp; simp only [h0]; exact h
    obtain ⟨v, hy, hK⟩ := yieldsIn_of_qOp h0 hq
    exact HeadQ.first h0 (Region.noSelect_spec hsel) hs hc hn hkn (fun s' a' hL => seqB_ready hL.1) l.length s a inv (Region.free_spec h0 hf) hr' hy
      (HeadQ.lex hsel hs hc hn l (k + 1) _ _ (fun j hj => by have := hl (j + 1) (by simp; omega); simpa [Nat.add_assoc, Nat.add_comm 1 j] using this) (by simp only [List.length_cons] at hk; omega) (inv.set hr' hkn) hB' hK)
end

/-- The region: n operations that read and call quietly, then the others in their order, in the world behind some draws. -/
theorem region_quiet_tail {P : Program} {id : Nat} {Q : Exit → Act → World → Prop} {a : Act} {w : World} {l : List Oper} (n : Nat) (hm : P.follows .mixedOrders = true) (hB : Region.lexTailB .any l.toArray n = true)
    (h : wpQuiet P l.toArray (fun w' => ∃ n, w' = w.drewN n) (fun a' => ∀ w', (∃ n, w' = w.drewN n) → wpList P l.toArray Q (l.drop n) a' w') (l.take n) a) : (Code.region id l.toArray true).wp P Q a w := by
  simp only [Region.lexTailB, Bool.and_eq_true, decide_eq_true_eq] at hB
  obtain ⟨⟨⟨⟨hsel, hn⟩, hs⟩, hc⟩, hlex⟩ := hB
  have hn' : n < l.length := by simpa using hn
  have htl : (l.take n).length = n := by simp; omega
  have hdl : (l.drop n).length = l.toArray.size - n := by simp
  have inv0 : HeadInv .any l.toArray n (Array.replicate l.toArray.size false) :=
    ⟨by simp, fun j oj _ hl => (by rw [getD_replicate_false] at hl; cases hl), fun t _ ht => getD_in (by simpa using ht) (getD_replicate_false _ _)⟩
  have H := HeadQ.lex (md := .any) (g := l.toArray.size - n) hsel hs hc hn (l.take n) 0 _ a (fun j hj => by
    have hj' : j < n := by rw [htl] at hj; exact hj
    simp [hj']) (by simpa using htl) inv0 (by rw [htl]; exact hlex) h
  refine wp_region_any hm ?_
  have := HeadQ.any (Q := Q) (g := l.toArray.size - n) (fun s a' w' hw' hL => by
    have := wpAny_of_seq (md := .any) (Q' := Q) (l.drop n) n s a' w' (fun j => by simp [List.getElem?_drop]) (by rw [hdl]; exact hL.1) (hL.2 w' hw')
    rwa [hdl] at this) _ _ _ { w with drawn := w.drawn + 1 } ⟨1, rfl⟩ H
  rw [htl, show n + (l.toArray.size - n) = l.toArray.size by omega] at this
  exact this
end Go.Proofs.YtoimdbmjpkmkfaaDoor

/- A region that draws its order: its first n operations come up under a condition on the world, then a tail comes up in the one order that its edges allow, without the condition. -/
namespace Go.Proofs.YtoimdbmjpkmkfaaDoor
open Go
set_option linter.unusedVariables false
set_option linter.unusedSimpArgs false
section
variable {P : Program} {ops : Array Oper} {md : Region.Mode} {Q : Exit → Act → World → Prop} {S : World → Prop}

/-- As many operations of the first n come up as the number says, S behind each; the rest of the list is left. -/
def HeadH (P : Program) (md : Region.Mode) (ops : Array Oper) (Q : Exit → Act → World → Prop) (S : World → Prop) (n : Nat) : Nat → Array Bool → Act → World → Prop
  | 0, s, a, w => Region.seqB md ops (ops.size - n) n s = true ∧ wpList P ops Q (ops.toList.drop n) a w
  | f + 1, s, a, w => Region.ready md ops s ≠ [] ∧ ∀ i ∈ Region.ready md ops s, i < n ∧ wpOp P ops Q i (fun a' w' => S w' ∧ HeadH P md ops Q S n f (s.setIfInBounds i true) a' w') a w

theorem HeadH.any {n : Nat} (hn : n < ops.size) : ∀ (f : Nat) (s : Array Bool) (a : Act) (w : World), HeadH P md ops Q S n f s a w → wpAny P md ops Q (f + (ops.size - n)) s a w
  | 0, s, a, w, h => by
    have := wpAny_of_seq (md := md) (Q' := Q) (ops.toList.drop n) n s a w (fun j => by simp [List.getElem?_drop]) (by simpa using h.1) h.2
    simpa using this
  | f + 1, s, a, w, h => by
    rw [show f + 1 + (ops.size - n) = (f + (ops.size - n)) + 1 by omega]
    exact ⟨fun h0 => absurd h0 h.1, fun i hi => wpOp_mono (fun a' w' h' => HeadH.any hn f _ a' w' h'.2) (h.2 i hi).2⟩

theorem HeadH.first {n i : Nat} {oi : Oper} {v : Value} (hi : ops[i]? = some oi) (hsel : ∀ (j : Nat) (o : Oper) cs b, ops[j]? = some o → o.op ≠ .select cs b)
    (hs : Region.sinkB md ops n = true) (hc : Region.chainB md ops n = true) (hn : n < ops.size) (hin : i < n) (hQ : ∀ c a w, Q (.panic c) (a.put oi.dst v) w → Q (.panic c) a w)
    (f : Nat) : ∀ (s : Array Bool) (a : Act) (w : World), HeadInv md ops n s →
      (∀ j oj, ops[j]? = some oj → j ≠ i → s.getD j true = false → (∀ e ∈ oj.after, Region.binds md e = true → e.on ≠ i) → oi.apart ops oj = true) →
      i ∈ Region.ready md ops s → YieldsIf P ops S oi v a → S w → HeadH P md ops Q S n f (s.setIfInBounds i true) (a.put oi.dst v) w → HeadH P md ops Q S n (f + 1) s a w := by
  have head : ∀ (s : Array Bool), HeadInv md ops n s → s.getD i true = false → ∀ j ∈ Region.ready md ops s, j < n := fun s inv hu j hj =>
    Nat.lt_of_not_le fun h => tail_waits hs hc hn inv _ i rfl hin hu j h hj
  induction f with
  | zero =>
    intro s a w inv _ hr hy hS H
    refine ⟨fun h => (by rw [h] at hr; cases hr), fun j hj => ⟨head s inv (mem_ready.1 hr).1 j hj, ?_⟩⟩
    by_cases e : j = i
    · subst e; exact hy.wpOp hi hS ⟨hS, H⟩
    · exact absurd (seqB_ready H.1 j (ready_mono hj e)) (by have := head s inv (mem_ready.1 hr).1 j hj; omega)
  | succ f ih =>
    intro s a w inv free hr hy hS H
    have hu := (mem_ready.1 hr).1
    refine ⟨fun h => (by rw [h] at hr; cases hr), fun j hj => ⟨head s inv hu j hj, ?_⟩⟩
    by_cases e : j = i
    · subst e; exact hy.wpOp hi hS ⟨hS, H⟩
    · obtain ⟨hju, oj, hoj, hall⟩ := mem_ready.1 hj
      have hno : ∀ e ∈ oj.after, Region.binds md e = true → e.on ≠ i := fun e he hb heq => by
        have h1 := hall e he hb
        rw [heq, getD_both hu] at h1
        cases h1
      have h2 := wpOp_putIf hoj (free j oj hoj e hju hno) (fun cs b => hsel i oi cs b hi) (fun cs b => hsel j oj cs b hoj) hQ hy (H.2 j (ready_mono hj e)).2
      refine wpOp_mono (fun a' w' h3 => ⟨h3.2.1, ih _ a' w' (inv.set hj (head s inv hu j hj)) (fun k ok hk hki hk2 hk3 => free k ok hk hki ?_ hk3) (ready_mono hr (Ne.symm e)) h3.1 h3.2.1 ?_⟩) h2
      · by_cases ejk : j = k
        · subst ejk; exact hju
        · rwa [getD_set_ne true ejk] at hk2
      · rw [Array.setIfInBounds_comm _ _ e]; exact h3.2.2

/-- What a walk goes through: the head, once it is known that it can be followed by the tail. -/
def HeldT (P : Program) (ops : Array Oper) (Q : Exit → Act → World → Prop) (S : World → Prop) (n f : Nat) (s : Array Bool) (a : Act) (w : World) : Prop :=
  Region.sinkB .any ops n = true → Region.chainB .any ops n = true → n < ops.size → HeadInv .any ops n s → HeadH P .any ops Q S n f s a w

theorem HeldT.take {n i : Nat} {oi : Oper} {v : Value} {f : Nat} {s : Array Bool} {a : Act} {w : World} (hi : ops[i]? = some oi) (hin : decide (i < n) = true)
    (hs : Region.noSelect ops = true) (hf : Region.free .any ops s i = true) (hr : (Region.ready .any ops s).contains i = true)
    (hQ : ∀ c a w, Q (.panic c) (a.put oi.dst v) w → Q (.panic c) a w) (hy : YieldsIf P ops S oi v a) (hS : S w)
    (h : HeldT P ops Q S n f (s.setIfInBounds i true) (a.put oi.dst v) w) : HeldT P ops Q S n (f + 1) s a w := fun h1 h2 h3 inv => by
  have hr' : i ∈ Region.ready .any ops s := by simpa using hr
  have hin' : i < n := of_decide_eq_true hin
  exact HeadH.first hi (Region.noSelect_spec hs) h1 h2 h3 hin' hQ f s a w inv (Region.free_spec hi hf) hr' hy hS (h h1 h2 h3 (inv.set hr' hin'))

/-- One operation alone may come up. -/
theorem HeldT.one {n i : Nat} {o : Oper} {f : Nat} {s : Array Bool} {a : Act} {w : World} (hi : ops[i]? = some o) (hin : decide (i < n) = true) (hr : Region.ready .any ops s = [i])
    (h : ∀ K' : Act → World → Prop, Shut (∀ a w, S w → (S w → HeldT P ops Q S n f (s.setIfInBounds i true) a w) → K' a w) → if Region.wanted o (yielded ops a.tmps) = true then Oper.wp P o a w K' Q else K' (a.put o.dst undef) w) :
    HeldT P ops Q S n (f + 1) s a w := fun h1 h2 h3 inv => by
  have hin' : i < n := of_decide_eq_true hin
  have hm : i ∈ Region.ready .any ops s := by rw [hr]; simp
  refine ⟨by rw [hr]; simp, fun j hj => ?_⟩
  obtain rfl : j = i := by rw [hr] at hj; simpa using hj
  exact ⟨hin', wpOp_step hi (fun K' hK => h K' (fun a w hS hW => hK a w ⟨hS, hW hS h1 h2 h3 (inv.set hm hin')⟩))⟩

/-- Two operations may come up. -/
theorem HeldT.two {n i k : Nat} {o o' : Oper} {f : Nat} {s : Array Bool} {a : Act} {w : World} (hi : ops[i]? = some o) (hk : ops[k]? = some o') (hin : decide (i < n) = true) (hkn : decide (k < n) = true) (hr : Region.ready .any ops s = [i, k])
    (h : ∀ K' : Act → World → Prop, Shut (∀ a w, S w → (S w → HeldT P ops Q S n f (s.setIfInBounds i true) a w) → K' a w) → if Region.wanted o (yielded ops a.tmps) = true then Oper.wp P o a w K' Q else K' (a.put o.dst undef) w)
    (h' : ∀ K' : Act → World → Prop, Shut (∀ a w, S w → (S w → HeldT P ops Q S n f (s.setIfInBounds k true) a w) → K' a w) → if Region.wanted o' (yielded ops a.tmps) = true then Oper.wp P o' a w K' Q else K' (a.put o'.dst undef) w) :
    HeldT P ops Q S n (f + 1) s a w := fun h1 h2 h3 inv => by
  have hin' : i < n := of_decide_eq_true hin
  have hkn' : k < n := of_decide_eq_true hkn
  have hm : i ∈ Region.ready .any ops s := by rw [hr]; simp
  have hm' : k ∈ Region.ready .any ops s := by rw [hr]; simp
  refine ⟨by rw [hr]; simp, fun j hj => ?_⟩
  have : j = i ∨ j = k := by rw [hr] at hj; simpa using hj
  rcases this with e | e
  · subst e
    exact ⟨hin', wpOp_step hi (fun K' hK => h K' (fun a w hS hW => hK a w ⟨hS, hW hS h1 h2 h3 (inv.set hm hin')⟩))⟩
  · subst e
    exact ⟨hkn', wpOp_step hk (fun K' hK => h' K' (fun a w hS hW => hK a w ⟨hS, hW hS h1 h2 h3 (inv.set hm' hkn')⟩))⟩

theorem HeldT.tail {n : Nat} {s : Array Bool} {a : Act} {w : World} {l : List Oper} (hB : Region.seqB .any ops (ops.size - n) n s = true) (hl : ops.toList.drop n = l) (h : wpList P ops Q l a w) : HeldT P ops Q S n 0 s a w :=
  fun _ _ _ _ => ⟨hB, by rw [hl]; exact h⟩
end

theorem region_held_tail {P : Program} {id : Nat} {Q : Exit → Act → World → Prop} {S : World → Prop} {ops : Array Oper} {a : Act} {w : World} (n : Nat) (hm : P.follows .mixedOrders = true)
    (hB : (Region.sinkB .any ops n && Region.chainB .any ops n && decide (n < ops.size)) = true) (hS : S w.drew) (h : S w.drew → HeldT P ops Q S n n (Array.replicate ops.size false) a w.drew) : (Code.region id ops true).wp P Q a w := by
  simp only [Bool.and_eq_true, decide_eq_true_eq] at hB
  obtain ⟨⟨h1, h2⟩, h3⟩ := hB
  have inv0 : HeadInv .any ops n (Array.replicate ops.size false) :=
    ⟨by simp, fun j oj _ hl => (by rw [getD_replicate_false] at hl; cases hl), fun t _ ht => getD_in (by simpa using ht) (getD_replicate_false _ _)⟩
  refine wp_region_any hm ?_
  have := HeadH.any h3 n _ a w.drew (h hS h1 h2 h3 inv0)
  rwa [show n + (ops.size - n) = ops.size by omega] at this
end Go.Proofs.YtoimdbmjpkmkfaaDoor

/- A rune buffer in memory: what it holds, what its steps leave alone, append onto its own rows. -/
namespace Go.Proofs.YtoimdbmjpkmkfaaDoor
open Go.RowKit
set_option linter.unusedVariables false
set_option linter.unusedSimpArgs false

def i32s (l : List Int) : List Value := l.map (Value.int .i32)
/-- A slice of code points that the call owns. -/
def Row (w : World) (base : Nat) (A : Option Addr) (cap : Nat) (l : List Int) : Prop := w.ownsRow base 21 1 (.slice A l.length cap) l.length (i32s l)
def blk (A : Option Addr) : Option Nat := A.map Addr.block
/-- A block of code points. -/
def I32 (w : World) (k : Nat) : Prop := ∃ cur fr, w.heap[k]? = some (.cells cur 21 fr)
theorem I32.of {w w' : World} {k : Nat} (h : I32 w k) (e : w'.heap[k]? = w.heap[k]?) : I32 w' k := by
  obtain ⟨cur, fr, h⟩ := h
  exact ⟨cur, fr, e.trans h⟩

theorem Row.own {w : World} {base : Nat} {A : Option Addr} {cap : Nat} {l : List Int} (h : Row w base A cap l) :
    (A = none ∧ cap = 0 ∧ l = []) ∨ ∃ g, A = some ⟨g, 0, none⟩ ∧ base ≤ g ∧ g < w.heap.size ∧ I32 w g ∧ l.length ≤ cap ∧ ∀ (j : Nat) (v : Int), l[j]? = some v → w.cell? ⟨g, j, none⟩ = some (.int .i32 v) := by
  rcases h.2 with ⟨h1, h2⟩ | ⟨g, c, cur, hv, hg, hh, hn, hc, hcs, htk⟩
  · simp only [Value.slice.injEq] at h1
    obtain ⟨rfl, _, rfl⟩ := h1
    exact .inl ⟨rfl, rfl, List.length_eq_zero_iff.1 h2⟩
  · cases hv
    refine .inr ⟨g, rfl, hg, (Array.getElem?_eq_some_iff.1 hh).1, ⟨_, _, hh⟩, hn, fun j v hj => ?_⟩
    have hjl := (List.getElem?_eq_some_iff.1 hj).1
    rw [World.cell?, hh]
    have := congrArg (·[j]?) htk
    simp [List.getElem?_take_of_lt (show j < l.length by omega), i32s, hj] at this
    simpa using this

/-- It is owned where its block is as it was. -/
theorem Row.kept {w w' : World} {base : Nat} {A : Option Addr} {cap : Nat} {l : List Int} (h : Row w base A cap l) (hk : ∀ k, base ≤ k → k < w.heap.size → I32 w k → blk A = some k → w'.heap[k]? = w.heap[k]?) : Row w' base A cap l := by
  refine ⟨h.1, ?_⟩
  rcases h.2 with h0 | ⟨g, c, cur, hv, hg, hh, r⟩
  · exact .inl h0
  · refine .inr ⟨g, c, cur, hv, hg, ?_, r⟩
    cases hv
    rw [hk g hg (Array.getElem?_eq_some_iff.1 hh).1 ⟨_, _, hh⟩ rfl]; exact hh

theorem Row.blk_lt {w : World} {base : Nat} {A : Option Addr} {cap : Nat} {l : List Int} (h : Row w base A cap l) {k : Nat} (hk : blk A = some k) : base ≤ k ∧ k < w.heap.size ∧ I32 w k := by
  rcases h.own with ⟨rfl, _⟩ | ⟨g, rfl, h1, h2, h3, _⟩
  · simp [blk] at hk
  · obtain rfl : g = k := by simpa [blk] using hk
    exact ⟨h1, h2, h3⟩

/-- The first some of them. -/
theorem Row.take {w : World} {base : Nat} {A : Option Addr} {cap : Nat} {l : List Int} (h : Row w base A cap l) (i : Nat) (hi : i ≤ l.length) : Row w base A cap (l.take i) := by
  have hl : (l.take i).length = i := by simp; omega
  unfold Row
  rw [hl]
  refine ⟨by simp [i32s]; omega, ?_⟩
  rcases h.2 with ⟨h1, h2⟩ | ⟨g, c, cur, hv, hg, hh, hn, hc, hcs, htk⟩
  · simp only [Value.slice.injEq] at h1
    obtain ⟨rfl, _, rfl⟩ := h1
    exact .inl ⟨by rw [show i = 0 by omega], by omega⟩
  · cases hv
    refine .inr ⟨g, cap, cur, rfl, hg, hh, by omega, hc, hcs, ?_⟩
    have := congrArg (List.take i) htk
    rw [List.take_take, Nat.mul_one, Nat.min_eq_left (by omega)] at this
    rw [Nat.mul_one, this]
    simp [i32s, List.map_take]

/-- What is read of a part of some owned row, or of any row that lies in memory: as append's source. -/
def Src (w : World) (B : Option Addr) (m c : Nat) (xs : List Int) : Prop :=
  m = xs.length ∧ ((B = none ∧ xs = [] ∧ c = 0) ∨ ∃ ad, B = some ad ∧ ∀ (j : Nat) (u : Value), (i32s xs)[j]? = some u → w.cell? (ad.add j) = some u)

theorem i32s_one (xs : List Int) : ∀ u ∈ i32s xs, u.oneCell' = true := by
  intro u hu
  obtain ⟨x, _, rfl⟩ := List.mem_map.1 hu
  rfl
theorem i32s_append (a b : List Int) : i32s (a ++ b) = i32s a ++ i32s b := by simp [i32s]

/-- append, onto a row that the call owns. -/
theorem run_append_row (w : World) (base : Nat) (A : Option Addr) (cap : Nat) (l : List Int) (hr : Row w base A cap l) (B : Option Addr) (m c : Nat) (xs : List Int) (hs : Src w B m c xs) (hb : base ≤ w.heap.size) (hlen : l.length + xs.length ≤ 1000000) :
    ∃ A' cap' w', (Builtin.append_ #[38, 38] 38 #[.slice A l.length cap, .slice B m c]).run Tryd.prog w = .ok (.slice A' (l ++ xs).length cap') w' ∧ Row w' base A' cap' (l ++ xs) ∧ w.grownBy w' (blk A) ∧ (blk A' = blk A ∨ blk A' = some w.heap.size) := by
  obtain ⟨ib, hib, hz0, hz1, hz2⟩ := info_parts (show (Tryd.prog.info? 21).map (fun i => (i.zero, i.size, i.bytes)) = some (some (.int .i32 0), 1, 4) by kernel_rfl)
  have hob : ∀ (X : Option Addr) (n k : Nat), Value.ownBlock (.slice X n k) = blk X := fun X n k => by cases X <;> rfl
  obtain ⟨rfl, hs⟩ := hs
  have fin : ∀ v' w', w'.ownsRow base 21 1 v' (l.length + xs.length) (i32s l ++ i32s xs) → (v'.ownBlock = blk A ∨ v'.ownBlock = some w.heap.size) → ∃ A' cap', v' = .slice A' (l ++ xs).length cap' ∧ Row w' base A' cap' (l ++ xs) ∧ (blk A' = blk A ∨ blk A' = some w.heap.size) := fun v' w' h h5 => by
    have hl : (l ++ xs).length = l.length + xs.length := by simp
    have hf : ∃ A' cap', v' = .slice A' (l ++ xs).length cap' := by
      rcases h.2 with ⟨h1, h2⟩ | ⟨g, c, cur, hv, _⟩
      · exact ⟨none, 0, by rw [h1, hl, h2]⟩
      · exact ⟨_, _, by rw [hv, hl]⟩
    obtain ⟨A', cap', rfl⟩ := hf
    rw [hob] at h5
    refine ⟨A', cap', rfl, ?_, h5⟩
    unfold Row
    rw [i32s_append]
    rw [hl] at h ⊢
    exact h
  rcases hs with ⟨rfl, rfl, rfl⟩ | ⟨ad, rfl, hc⟩
  · have h1 := run_append_owned_none (P := Tryd.prog) (w := w) base 38 38 21 ib 1 Tryd.underlying38 hib _ _ _ hr
    refine ⟨A, cap, w, ?_, by rw [List.append_nil]; exact hr, ⟨rfl, rfl, rfl, Nat.le_refl _, fun _ _ _ => rfl⟩, .inl rfl⟩
    rw [List.append_nil]; exact h1
  · obtain ⟨v', w', h1, h2, h3, _, h5⟩ := run_append_own_at (P := Tryd.prog) w base 38 38 21 ib (.int .i32 0) 1 4 Tryd.underlying38 hib hz0 hz1 hz2 rfl (by decide) _ _ _ hr ad xs.length c (i32s xs) (by simp [i32s]) hc (i32s_one _) (by unfold maxLen; omega) (by omega) hb
    rw [hob] at h3 h5
    obtain ⟨A', cap', rfl, h6, h7⟩ := fin v' w' h2 h5
    exact ⟨A', cap', w', h1, h6, h3, h7⟩

/-- A part of an owned row, as append's source: what a slice of it from a place on is. -/
theorem Row.src {w : World} {base : Nat} {A : Option Addr} {cap : Nat} {l : List Int} (h : Row w base A cap l) : Src w A l.length cap l := by
  refine ⟨rfl, ?_⟩
  rcases h.own with ⟨h1, h2, h3⟩ | ⟨g, rfl, _, _, _, _, hc⟩
  · exact .inl ⟨h1, h3, h2⟩
  · refine .inr ⟨_, rfl, fun j u hu => ?_⟩
    obtain ⟨x, hx, rfl⟩ : ∃ x, l[j]? = some x ∧ u = .int .i32 x := by
      simp [i32s] at hu
      obtain ⟨x, h1, h2⟩ := hu
      exact ⟨x, h1, h2.symm⟩
    have e : (⟨g, 0, none⟩ : Addr).add j = ⟨g, j, none⟩ := by
      unfold Addr.add
      by_cases e : j = 0
      · rw [if_pos e, e]
      · rw [if_neg e, Nat.zero_add]
    rw [e]; exact hc j x hx

/-- Where a slice of a row begins, from a place on. -/
def fromA (A : Option Addr) (cap i : Nat) : Option Addr := if cap = i then A else A.map fun a => a.add i

theorem run_from {P : Program} (t e : TypeId) (ht : P.underlying t = some (.slice e)) (hi : ∀ w, (sizeOf (P.elem t)).run P w = .ok 1 w) (A : Option Addr) (n cap i : Nat) (hl : i ≤ n) :
    ∀ w, (Instr.slice t (.slice A n cap) (some (.int .i64 (i : Nat))) none none).run P w = .ok (.slice (fromA A cap i) (n - i) (cap - i)) w := fun w => by
  have he : P.elem t = e := by simp [Program.elem, ht]
  rw [run_slice_l w t _ n cap (by rw [he]; exact ht) .i64 i (by omega) (by omega), hi]
  simp only [Result.andThen, sliced, Nat.mul_one, Int.toNat_natCast, fromA]

theorem sizeI (w : World) : (sizeOf (Tryd.prog.elem 38)).run Tryd.prog w = .ok 1 w := by kernel_rfl

theorem fromA_some (g cap i : Nat) : ∃ o, fromA (some ⟨g, 0, none⟩) cap i = some ⟨g, o, none⟩ ∧ (i < cap → o = i) := by
  unfold fromA
  by_cases h : cap = i
  · rw [if_pos h]; exact ⟨0, rfl, fun h' => by omega⟩
  · rw [if_neg h]
    refine ⟨i, ?_, fun _ => rfl⟩
    simp only [Option.map_some, Addr.add]
    by_cases h0 : i = 0
    · rw [if_pos h0, h0]
    · rw [if_neg h0, Nat.zero_add]

theorem row_src {w : World} {base : Nat} {A : Option Addr} {cap : Nat} {l : List Int} (h : Row w base A cap l) (i m : Nat) (him : i ≤ m) (hm : m ≤ l.length) : Src w (fromA A cap i) (m - i) (cap - i) ((l.take m).drop i) := by
  refine ⟨by simp; omega, ?_⟩
  rcases h.own with ⟨rfl, rfl, rfl⟩ | ⟨g, rfl, _, _, _, hle, hcl⟩
  · exact .inl ⟨by unfold fromA; split <;> rfl, by simp, by omega⟩
  · obtain ⟨o, hBo, ho⟩ := fromA_some g cap i
    refine .inr ⟨_, hBo, fun j u hu => ?_⟩
    obtain ⟨x, hx, rfl⟩ : ∃ x, ((l.take m).drop i)[j]? = some x ∧ u = .int .i32 x := by
      rw [i32s, List.getElem?_map] at hu
      obtain ⟨x, h1, h2⟩ := Option.map_eq_some_iff.1 hu
      exact ⟨x, h1, h2.symm⟩
    have hj : j < ((l.take m).drop i).length := (List.getElem?_eq_some_iff.1 hx).1
    simp at hj
    have hx2 : l[i + j]? = some x := by
      rw [List.getElem?_drop, List.getElem?_take_of_lt (by omega)] at hx
      exact hx
    rw [ho (by omega)]
    have e : (⟨g, i, none⟩ : Addr).add j = ⟨g, i + j, none⟩ := by
      unfold Addr.add
      by_cases e : j = 0
      · rw [if_pos e, e]; rfl
      · rw [if_neg e]
    rw [e]; exact hcl _ x hx2

/-- What a step of a rune buffer leaves alone: all but its own block, and rows of code points that lie behind it. -/
structure Own (rb : Nat) (w w' : World) : Prop where
  os : w'.os = w.os
  tape : w'.tape = w.tape
  output : w'.output = w.output
  size : w.heap.size ≤ w'.heap.size
  rest : ∀ k, k < w.heap.size → k ≠ rb → (k ≤ rb ∨ ¬ I32 w k) → w'.heap[k]? = w.heap[k]?
theorem Own.refl (rb : Nat) (w : World) : Own rb w w := ⟨rfl, rfl, rfl, Nat.le_refl _, fun _ _ _ _ => rfl⟩
theorem Own.trans {rb : Nat} {a b c : World} (h : Own rb a b) (k : Own rb b c) : Own rb a c :=
  ⟨k.os.trans h.os, k.tape.trans h.tape, k.output.trans h.output, Nat.le_trans h.size k.size, fun i hi h1 h2 =>
    have e := h.rest i hi h1 h2
    (k.rest i (Nat.lt_of_lt_of_le hi h.size) h1 (h2.imp id fun hn h' => hn (h'.of e.symm))).trans e⟩
theorem Own.of {rb : Nat} {w w' : World} (h : Below w.heap.size w w') : Own rb w w' := ⟨h.os, h.tape, h.output, h.size, fun k hk _ _ => h.block k hk⟩
theorem Own.after {rb : Nat} {a b c : World} (h : Own rb a b) (k : Below b.heap.size b c) : Own rb a c := h.trans (.of k)
theorem Own.drew {rb : Nat} {a w : World} (h : Own rb a w) : Own rb a w.drew := h.after (Below.refl _ _).drew
theorem Own.drewN {rb : Nat} {a w : World} (h : Own rb a w) (n : Nat) : Own rb a (w.drewN n) := h.after (below_drewN (Below.refl _ _) _)
theorem Own.alloc {rb : Nat} {a w : World} (h : Own rb a w) (o : Obj) : Own rb a (w.alloc o) := h.after ((Below.refl _ _).alloc (Nat.le_refl _) _)
theorem Own.set {rb : Nat} {a w : World} (h : Own rb a w) (o : Nat) (u : Value) : Own rb a (w.setCell ⟨rb, o, none⟩ u) :=
  h.trans ⟨rfl, rfl, rfl, by simp [World.setCell], fun k _ h1 _ => Below.heap_setCell _ _ _ _ h1⟩
theorem Own.grown {rb : Nat} {a w w' : World} (h : Own rb a w) {row : Option Nat} (hg : w.grownBy w' row) (hr : ∀ k, row = some k → rb < k ∧ I32 w k) : Own rb a w' :=
  h.trans ⟨hg.os, hg.tape, hg.output, hg.size, fun k hk h1 h2 => hg.block k hk fun e => by
    obtain ⟨h3, h4⟩ := hr k e.symm
    rcases h2 with h2 | h2
    · omega
    · exact h2 h4⟩
theorem Own.below {rb : Nat} {w w' : World} (h : Own rb w w') {B : Nat} (hB : B ≤ rb) (hz : B ≤ w.heap.size) : Below B w w' :=
  ⟨h.os, h.tape, h.output, h.size, fun k hk => h.rest k (by omega) (by omega) (.inl (by omega))⟩

/-- A rune buffer in block rb: the line, the cursor, what was taken out; where these lie. -/
structure RBv (w : World) (rb : Nat) (l : List Int) (k : Nat) (kept : List Int) (A : Option Addr) (cap : Nat) (B : Option Addr) (cap2 : Nat) : Prop where
  c0 : w.cell? ⟨rb, 0, none⟩ = some (.slice A l.length cap)
  c1 : w.cell? ⟨rb, 1, none⟩ = some (.int .i64 (k : Nat))
  c10 : w.cell? ⟨rb, 10, none⟩ = some (.slice B kept.length cap2)
  r0 : Row w (rb + 1) A cap l
  r10 : Row w (rb + 1) B cap2 kept
  ap : ∀ g, blk A = some g → blk B ≠ some g
  f : ∀ j, w.frozen? ⟨rb, j, none⟩ = false
  sz : rb < w.heap.size
  ni : ¬ I32 w rb
def RB (w : World) (rb : Nat) (l : List Int) (k : Nat) (kept : List Int) : Prop := ∃ A cap B cap2, RBv w rb l k kept A cap B cap2

theorem RBv.same {w w' : World} {rb : Nat} {l : List Int} {k : Nat} {kept : List Int} {A : Option Addr} {cap : Nat} {B : Option Addr} {cap2 : Nat} (h : RBv w rb l k kept A cap B cap2) (hz : w.heap.size ≤ w'.heap.size)
    (hk : ∀ k, k < w.heap.size → (k = rb ∨ (rb < k ∧ I32 w k)) → w'.heap[k]? = w.heap[k]?) : RBv w' rb l k kept A cap B cap2 := by
  have e := hk rb h.sz (.inl rfl)
  have c : ∀ j, w'.cell? ⟨rb, j, none⟩ = w.cell? ⟨rb, j, none⟩ := fun j => World.cell?_of_block (w := w) e
  exact ⟨(c _).trans h.c0, (c _).trans h.c1, (c _).trans h.c10, h.r0.kept fun k h1 h2 h3 _ => hk k h2 (.inr ⟨by omega, h3⟩), h.r10.kept fun k h1 h2 h3 _ => hk k h2 (.inr ⟨by omega, h3⟩), h.ap, fun j => (World.frozen?_of_block (w := w) e).trans (h.f j), by have := h.sz; omega, fun h' => h.ni (h'.of e.symm)⟩
theorem RBv.below {w w' : World} {rb : Nat} {l : List Int} {k : Nat} {kept : List Int} {A : Option Addr} {cap : Nat} {B : Option Addr} {cap2 : Nat} (h : RBv w rb l k kept A cap B cap2) (hb : Below w.heap.size w w') : RBv w' rb l k kept A cap B cap2 :=
  h.same hb.size fun k hk _ => hb.block k hk
theorem RB.below {w w' : World} {rb : Nat} {l : List Int} {k : Nat} {kept : List Int} (h : RB w rb l k kept) (hb : Below w.heap.size w w') : RB w' rb l k kept := by
  obtain ⟨A, cap, B, cap2, h⟩ := h
  exact ⟨A, cap, B, cap2, h.below hb⟩
theorem RB.same {w w' : World} {rb : Nat} {l : List Int} {k : Nat} {kept : List Int} (h : RB w rb l k kept) (hz : w.heap.size ≤ w'.heap.size)
    (hk : ∀ k, k < w.heap.size → (k = rb ∨ (rb < k ∧ I32 w k)) → w'.heap[k]? = w.heap[k]?) : RB w' rb l k kept := by
  obtain ⟨A, cap, B, cap2, h⟩ := h
  exact ⟨A, cap, B, cap2, h.same hz hk⟩

theorem i32_setCell {w : World} {a : Addr} {v : Value} {k : Nat} (h : I32 (w.setCell a v) k) : I32 w k := by
  obtain ⟨cur, fr, h⟩ := h
  by_cases e : k = a.block
  · subst e
    simp only [World.setCell, Array.getElem?_modify, if_true] at h
    cases hx : w.heap[a.block]? with
    | none => rw [hx] at h; simp at h
    | some o =>
      rw [hx] at h
      cases o <;> simp at h
      obtain ⟨_, rfl, _⟩ := h
      exact ⟨_, _, hx⟩
  · rw [Below.heap_setCell _ _ _ _ e] at h
    exact ⟨cur, fr, h⟩

/-- A store into the buffer's own block leaves its rows. -/
theorem Row.set {w : World} {rb : Nat} {A : Option Addr} {cap : Nat} {l : List Int} (h : Row w (rb + 1) A cap l) (o : Nat) (u : Value) : Row (w.setCell ⟨rb, o, none⟩ u) (rb + 1) A cap l :=
  h.kept fun k h1 _ _ _ => Below.heap_setCell _ _ _ _ (by show k ≠ rb; omega)

theorem RBv.idx {w : World} {rb : Nat} {l : List Int} {k : Nat} {kept : List Int} {A : Option Addr} {cap : Nat} {B : Option Addr} {cap2 : Nat} (h : RBv w rb l k kept A cap B cap2) (m : Nat) : RBv (w.setCell ⟨rb, 1, none⟩ (.int .i64 (m : Nat))) rb l m kept A cap B cap2 := by
  have o : ∀ j, j ≠ 1 → (w.setCell ⟨rb, 1, none⟩ (.int .i64 (m : Nat))).cell? ⟨rb, j, none⟩ = w.cell? ⟨rb, j, none⟩ := fun j hj => World.cell?_setCell_other _ _ _ _ (by intro e; have := congrArg Addr.off e; simp at this; omega)
  exact ⟨(o 0 (by omega)).trans h.c0, World.cell?_setCell_same' _ _ _ (by rw [h.c1]; rfl), (o 10 (by omega)).trans h.c10, h.r0.set _ _, h.r10.set _ _, h.ap, fun j => by rw [World.frozen?_setCell]; exact h.f j, by simpa [World.setCell] using h.sz, fun h' => h.ni (i32_setCell h')⟩

theorem RBv.buf {w : World} {rb : Nat} {l : List Int} {k : Nat} {kept : List Int} {A : Option Addr} {cap : Nat} {B : Option Addr} {cap2 : Nat} (h : RBv w rb l k kept A cap B cap2) {A' : Option Addr} {cap' : Nat} {l' : List Int} (hr : Row w (rb + 1) A' cap' l') (ap : ∀ g, blk A' = some g → blk B ≠ some g) :
    RBv (w.setCell ⟨rb, 0, none⟩ (.slice A' l'.length cap')) rb l' k kept A' cap' B cap2 := by
  have o : ∀ j, j ≠ 0 → (w.setCell ⟨rb, 0, none⟩ (.slice A' l'.length cap')).cell? ⟨rb, j, none⟩ = w.cell? ⟨rb, j, none⟩ := fun j hj => World.cell?_setCell_other _ _ _ _ (by intro e; have := congrArg Addr.off e; simp at this; omega)
  exact ⟨World.cell?_setCell_same' _ _ _ (by rw [h.c0]; rfl), (o 1 (by omega)).trans h.c1, (o 10 (by omega)).trans h.c10, hr.set _ _, h.r10.set _ _, ap, fun j => by rw [World.frozen?_setCell]; exact h.f j, by simpa [World.setCell] using h.sz, fun h' => h.ni (i32_setCell h')⟩

theorem RBv.kill {w : World} {rb : Nat} {l : List Int} {k : Nat} {kept : List Int} {A : Option Addr} {cap : Nat} {B : Option Addr} {cap2 : Nat} (h : RBv w rb l k kept A cap B cap2) {B' : Option Addr} {cap' : Nat} {l' : List Int} (hr : Row w (rb + 1) B' cap' l') (ap : ∀ g, blk A = some g → blk B' ≠ some g) :
    RBv (w.setCell ⟨rb, 10, none⟩ (.slice B' l'.length cap')) rb l k l' A cap B' cap' := by
  have o : ∀ j, j ≠ 10 → (w.setCell ⟨rb, 10, none⟩ (.slice B' l'.length cap')).cell? ⟨rb, j, none⟩ = w.cell? ⟨rb, j, none⟩ := fun j hj => World.cell?_setCell_other _ _ _ _ (by intro e; have := congrArg Addr.off e; simp at this; omega)
  exact ⟨(o 0 (by omega)).trans h.c0, (o 1 (by omega)).trans h.c1, World.cell?_setCell_same' _ _ _ (by rw [h.c10]; rfl), h.r0.set _ _, hr.set _ _, ap, fun j => by rw [World.frozen?_setCell]; exact h.f j, by simpa [World.setCell] using h.sz, fun h' => h.ni (i32_setCell h')⟩

/-- The line is another one, behind an append onto its row. -/
theorem RBv.appended {w w' : World} {rb : Nat} {l : List Int} {k : Nat} {kept : List Int} {A : Option Addr} {cap : Nat} {B : Option Addr} {cap2 : Nat} (h : RBv w rb l k kept A cap B cap2) (hg : w.grownBy w' (blk A))
    {A' : Option Addr} {cap' : Nat} {l' : List Int} (hr : Row w' (rb + 1) A' cap' l') (hb : blk A' = blk A ∨ blk A' = some w.heap.size) :
    RBv (w'.setCell ⟨rb, 0, none⟩ (.slice A' l'.length cap')) rb l' k kept A' cap' B cap2 ∧ Own rb w (w'.setCell ⟨rb, 0, none⟩ (.slice A' l'.length cap')) ∧
      (∀ j, w'.cell? ⟨rb, j, none⟩ = w.cell? ⟨rb, j, none⟩) ∧ (∀ j, w'.frozen? ⟨rb, j, none⟩ = w.frozen? ⟨rb, j, none⟩) ∧ Own rb w w' := by
  have hrow : ∀ k, blk A = some k → rb < k ∧ I32 w k := fun k hk => ⟨(h.r0.blk_lt hk).1, (h.r0.blk_lt hk).2.2⟩
  have e : w'.heap[rb]? = w.heap[rb]? := hg.block rb h.sz (fun e => by have := (hrow rb e.symm).1; omega)
  have c : ∀ j, w'.cell? ⟨rb, j, none⟩ = w.cell? ⟨rb, j, none⟩ := fun j => World.cell?_of_block (w := w) e
  have f : ∀ j, w'.frozen? ⟨rb, j, none⟩ = w.frozen? ⟨rb, j, none⟩ := fun j => World.frozen?_of_block (w := w) e
  have hown : Own rb w w' := (Own.refl _ _).grown hg hrow
  have o : ∀ j, j ≠ 0 → (w'.setCell ⟨rb, 0, none⟩ (.slice A' l'.length cap')).cell? ⟨rb, j, none⟩ = w'.cell? ⟨rb, j, none⟩ := fun j hj => World.cell?_setCell_other _ _ _ _ (by intro e; have := congrArg Addr.off e; simp at this; omega)
  have r10 : Row w' (rb + 1) B cap2 kept := h.r10.kept fun k h1 h2 _ h3 => hg.block k h2 (fun e => h.ap k e.symm h3)
  refine ⟨⟨World.cell?_setCell_same' _ _ _ (by rw [c, h.c0]; rfl), (o 1 (by omega)).trans ((c 1).trans h.c1), (o 10 (by omega)).trans ((c 10).trans h.c10), hr.set _ _, r10.set _ _, fun g hg' => ?_, fun j => by rw [World.frozen?_setCell, f]; exact h.f j, ?_, fun h' => h.ni ((i32_setCell h').of e.symm)⟩, hown.set _ _, c, f, hown⟩
  · rcases hb with hb | hb
    · exact h.ap g (by rw [← hb]; exact hg')
    · intro hB
      have := (h.r10.blk_lt hB).2.1
      rw [hb] at hg'
      have : w.heap.size = g := by simpa using hg'
      omega
  · have := hg.size; have := h.sz; simp [World.setCell]; omega

/-- What stands up to a place. -/
theorem run_upto {P : Program} (t e : TypeId) (ht : P.underlying t = some (.slice e)) (hi : ∀ w, (sizeOf (P.elem t)).run P w = .ok 1 w) (A : Option Addr) (n cap i : Nat) (hl : i ≤ cap) :
    ∀ w, (Instr.slice t (.slice A n cap) none (some (.int .i64 (i : Nat))) none).run P w = .ok (.slice A i cap) w := fun w => by
  have he : P.elem t = e := by simp [Program.elem, ht]
  rw [run_slice_h w t _ n cap (by rw [he]; exact ht) .i64 i (by omega) (by omega), hi]
  cases A <;> simp [Result.andThen, sliced, Addr.add]
theorem Row.le {w : World} {base : Nat} {A : Option Addr} {cap : Nat} {l : List Int} (h : Row w base A cap l) : l.length ≤ cap := by
  rcases h.own with ⟨_, h2, h3⟩ | ⟨g, _, _, _, _, h2, _⟩
  · rw [h3]; exact Nat.zero_le _
  · exact h2
end Go.Proofs.YtoimdbmjpkmkfaaDoor

/- Steps of a rune buffer: Refresh, and the closures of MoveForward, MoveBackward, Backspace, Delete, Kill, WriteRunes, SetWithIdx. -/
namespace Go.Proofs.YtoimdbmjpkmkfaaDoor
open Go.RowKit
set_option linter.unusedVariables false
set_option linter.unusedSimpArgs false

/-- append at a step of a region that draws, by its run. -/
theorem step_append_run {P : Program} {ops : Array Oper} {o : Oper} {a : Act} {w w' : World} {K : Act → World → Prop} {Q : Exit → Act → World → Prop} {E : Prop} (hg : o.guard = none) (s x : Operand) (t : TypeId)
    (hop : o.op = .call { callee := .builtin .append, args := #[s, x], argTypes := #[t, t] }) (v1 v2 v : Value) (hs : a.eval s = v1) (hx : a.eval x = v2)
    (hrun : (Builtin.append_ #[t, t] o.type #[v1, v2]).run P w = .ok v w') (hK : K (a.put o.dst v) w') :
    if Region.wanted o (yielded ops a.tmps) = true then Oper.wp P o a w K Q else E := by
  have hw : Region.wanted o (yielded ops a.tmps) = true := by simp [Region.wanted, hg]
  rw [if_pos hw]
  unfold Oper.wp
  simp [execOp, hop, resolve, invoke, builtin, hs, hx, hrun, Result.andThen]
  exact hK
/-- append at a plain list of operations, by its run. -/
theorem wpList_append_run {P : Program} {ops : Array Oper} {rest : List Oper} {o : Oper} {a : Act} {w w' : World} {Q : Exit → Act → World → Prop} (hg : o.guard = none) (s x : Operand) (t : TypeId)
    (hop : o.op = .call { callee := .builtin .append, args := #[s, x], argTypes := #[t, t] }) (v1 v2 v : Value) (hs : a.eval s = v1) (hx : a.eval x = v2)
    (hrun : (Builtin.append_ #[t, t] o.type #[v1, v2]).run P w = .ok v w') (h : wpList P ops Q rest (a.put o.dst v) w') : wpList P ops Q (o :: rest) a w :=
  wpList_plain hg fun K hK => by
    unfold Oper.wp
    simp [execOp, hop, resolve, invoke, builtin, hs, hx, hrun, Result.andThen]
    exact hK _ _ h

/-- A variable that a closure captured: the buffer's address. -/
structure Cap (w : World) (rb N : Nat) : Prop where
  c : w.cell? ⟨N, 0, none⟩ = some (.pointer (some ⟨rb, 0, none⟩))
  lt : N < w.heap.size
  ne : N ≠ rb
  ni : ¬ I32 w N
theorem Cap.own {w w' : World} {rb N : Nat} (h : Cap w rb N) (ho : Own rb w w') : Cap w' rb N := by
  have e := ho.rest N h.lt h.ne (.inr h.ni)
  exact ⟨(World.cell?_of_block (w := w) e).trans h.c, Nat.lt_of_lt_of_le h.lt ho.size, h.ne, fun h' => h.ni (h'.of e.symm)⟩
theorem cap_new (w : World) (rb : Nat) (T : TypeId) (hT : T ≠ 21) (h : rb < w.heap.size) : Cap (w.alloc (.cells #[.pointer (some ⟨rb, 0, none⟩)] T)) rb w.heap.size :=
  ⟨by simp [go_sem], by simp, by omega, fun ⟨cur, fr, e⟩ => by
    rw [heap_alloc_new] at e
    simp at e
    exact hT e.2.1⟩

theorem refresh (rb f : Nat) (caps : Array Value) (w : World) (R : World → Prop) (eg : ∀ args w, (callFunc f args).run Tryd.prog w = .ok (.enter f args) w)
    (h : Calls Tryd.prog f caps w fun e w' => e = .returned (.tuple #[]) ∧ R w') :
    Calls Tryd.prog 50 #[.pointer (some ⟨rb, 0, none⟩), .func (.func f) #[] caps] w fun e w' => e = .returned (.tuple #[]) ∧ R w' := by
  have H := Go.Lib.hid h
  clear h
  have hne : ∀ w, (binOp .neq 1 (.func (.func f) #[] caps) .nilFunc).run Tryd.prog w = .ok (.bool true) w := fun w => by kernel_rfl
  go_enter Tryd.func50, Tryd.ntmps50
  go_wp2_with fail
  refine H.out.mono ?_
  rintro e w1 ⟨rfl, hR⟩
  have HR := Go.Lib.hid hR
  clear hR
  go_wp2_with fail
  go_returns
  exact ⟨rfl, HR.out⟩

theorem forward_cl (rb N : Nat) (l : List Int) (k : Nat) (kept : List Int) (w : World) (h : RB w rb l k kept) (hN : Cap w rb N) (hk : k ≤ l.length) (hl : l.length ≤ 100000) :
    Calls Tryd.prog 51 #[.pointer (some ⟨N, 0, none⟩)] w fun e w' => e = .returned (.tuple #[]) ∧ (RB w' rb l (min (k + 1) l.length) kept ∧ Own rb w w') := by
  obtain ⟨A, cap, B, cap2, hv⟩ := h
  have HV := Go.Lib.hid hv
  have HN := Go.Lib.hid hN
  obtain ⟨c0, c1, -, -, -, -, f, sz, -⟩ := hv
  obtain ⟨cN, ltN, neN, -⟩ := hN
  have f1 := f 1
  clear f
  by_cases e : k = l.length
  · subst e
    have hm : Hid (min (l.length + 1) l.length = l.length) := Nat.min_eq_right (by omega)
    go_enter Tryd.func51, Tryd.ntmps51
    go_wp2_with fail
    go_quiet (fail)
    go_wp2_with fail
    go_returns
    exact ⟨rfl, by rw [hm.out]; exact ⟨_, _, _, _, HV.out.below (below_drewN (Below.refl _ _) _)⟩, (Own.refl _ _).drewN _⟩
  · have hm : Hid (min (k + 1) l.length = k + 1) := Nat.min_eq_left (by omega)
    have e' : ((k : Int) == (l.length : Int)) = false := by simp; omega
    clear e
    go_enter Tryd.func51, Tryd.ntmps51
    go_wp2_with fail
    go_quiet (fail)
    go_wp2_with fail
    go_returns
    exact ⟨rfl, by rw [hm.out]; exact ⟨_, _, _, _, (HV.out.below (below_drewN (Below.refl _ _) _)).idx (k + 1)⟩, ((Own.refl _ _).drewN _).set _ _⟩

theorem backward_cl (rb N : Nat) (l : List Int) (k : Nat) (kept : List Int) (w : World) (h : RB w rb l k kept) (hN : Cap w rb N) (hk : k ≤ l.length) (hl : l.length ≤ 100000) :
    Calls Tryd.prog 52 #[.pointer (some ⟨N, 0, none⟩)] w fun e w' => e = .returned (.tuple #[]) ∧ (RB w' rb l (k - 1) kept ∧ Own rb w w') := by
  obtain ⟨A, cap, B, cap2, hv⟩ := h
  have HV := Go.Lib.hid hv
  have HN := Go.Lib.hid hN
  obtain ⟨c0, c1, -, -, -, -, f, sz, -⟩ := hv
  obtain ⟨cN, ltN, neN, -⟩ := hN
  have f1 := f 1
  clear f
  cases k with
  | zero =>
    have c1' : w.cell? ⟨rb, 1, none⟩ = some (.int .i64 0) := c1
    clear c1
    go_enter Tryd.func52, Tryd.ntmps52
    go_wp2_with fail
    go_returns
    exact ⟨rfl, ⟨_, _, _, _, HV.out⟩, Own.refl _ _⟩
  | succ k =>
    have e' : (((k + 1 : Nat) : Int) == 0) = false := by simp; omega
    have hw : IntKind.i64.wrap (((k + 1 : Nat) : Int) - 1) = (k : Nat) := by rw [IntWalk.i64_in _ (by omega)]; omega
    obtain ⟨m, hm⟩ : ∃ m, m = k + 1 := ⟨_, rfl⟩
    rw [← hm] at c1 e' hw
    have HM := Go.Lib.hid hm
    rw [← hm] at HV
    rw [← hm]
    clear hm
    go_enter Tryd.func52, Tryd.ntmps52
    go_wp2_with fail
    go_returns
    exact ⟨rfl, by rw [HM.out, Nat.add_sub_cancel]; exact ⟨_, _, _, _, HV.out.idx k⟩, (Own.refl _ _).set _ _⟩

/-- A method that does what its closure does. -/
theorem forward_any (rb : Nat) (l : List Int) (k : Nat) (kept : List Int) (w : World) (h : RB w rb l k kept) (hk : k ≤ l.length) (hl : l.length ≤ 100000) :
    Calls Tryd.prog 34 #[.pointer (some ⟨rb, 0, none⟩)] w fun e w' => e = .returned (.tuple #[]) ∧ (RB w' rb l (min (k + 1) l.length) kept ∧ Own rb w w') := by
  have eg : ∀ args w, (callFunc 51 args).run Tryd.prog w = .ok (.enter 51 args) w := fun _ _ => by kernel_rfl
  have hmf : ∀ (fn : Fn) (first cap : Array Value) (w : World), (Instr.makeFunc fn first cap).run Tryd.prog w = .ok (.func fn first cap) w := fun _ _ _ _ => rfl
  have hsz : rb < w.heap.size := by obtain ⟨_, _, _, _, h⟩ := h; exact h.sz
  have HR := Go.Lib.hid (refresh rb 51 #[.pointer (some ⟨w.heap.size, 0, none⟩)] (w.alloc (.cells #[.pointer (some ⟨rb, 0, none⟩)] 46)) _ eg
    (forward_cl rb w.heap.size l k kept _ (h.below ((Below.refl _ _).alloc (Nat.le_refl _) _)) (cap_new w rb _ (by decide) hsz) hk hl))
  clear h eg
  go_enter Tryd.func34, Tryd.ntmps34
  go_wp2_with fail
  refine HR.out.mono ?_
  rintro e w1 ⟨rfl, h1, o1⟩
  have H1 := Go.Lib.hid h1
  clear h1
  go_wp2_with fail
  go_returns
  exact ⟨rfl, H1.out, ((Own.refl _ _).alloc _).trans o1⟩

/-- A line without the sign at a place. -/
def cutAt (l : List Int) (j : Nat) : List Int := l.take j ++ l.drop (j + 1)

theorem up_run (A : Option Addr) (n cap i : Nat) (h : i ≤ cap) : ∀ w, (Instr.slice 38 (.slice A n cap) none (some (.int .i64 (i : Nat))) none).run Tryd.prog w = .ok (.slice A i cap) w := run_upto _ _ Tryd.underlying38 sizeI A n cap i h
theorem from_run (A : Option Addr) (n cap i : Nat) (h : i ≤ n) : ∀ w, (Instr.slice 38 (.slice A n cap) (some (.int .i64 (i : Nat))) none none).run Tryd.prog w = .ok (.slice (fromA A cap i) (n - i) (cap - i)) w := run_from _ _ Tryd.underlying38 sizeI A n cap i h

/-- 'append(buf[:i], buf[j:]..)', stored. -/
theorem cut_run {w : World} {rb : Nat} {l : List Int} {k : Nat} {kept : List Int} {A : Option Addr} {cap : Nat} {B : Option Addr} {cap2 : Nat} (h : RBv w rb l k kept A cap B cap2) (i j : Nat) (hi : i ≤ l.length) (hj : j ≤ l.length) (hl : l.length ≤ 100000) (l' : List Int) (hl' : l' = l.take i ++ l.drop j) :
    ∃ A' cap' w', (Builtin.append_ #[38, 38] 38 #[.slice A i cap, .slice (fromA A cap j) (l.length - j) (cap - j)]).run Tryd.prog w = .ok (.slice A' l'.length cap') w' ∧
      RBv (w'.setCell ⟨rb, 0, none⟩ (.slice A' l'.length cap')) rb l' k kept A' cap' B cap2 ∧ Own rb w (w'.setCell ⟨rb, 0, none⟩ (.slice A' l'.length cap')) ∧
      (∀ j, w'.cell? ⟨rb, j, none⟩ = w.cell? ⟨rb, j, none⟩) ∧ (∀ j, w'.frozen? ⟨rb, j, none⟩ = w.frozen? ⟨rb, j, none⟩) ∧ Own rb w w' := by
  subst hl'
  have hsrc := row_src h.r0 j l.length hj (Nat.le_refl _)
  rw [List.take_of_length_le (Nat.le_refl _)] at hsrc
  obtain ⟨A', cap', w', hrun, hrow, hg, hb⟩ := run_append_row w (rb + 1) A cap (l.take i) (h.r0.take i hi) _ _ _ _ hsrc (by have := h.sz; omega) (by simp; omega)
  have hli : (l.take i).length = i := by simp; omega
  rw [hli] at hrun
  obtain ⟨h1, h2, h3, h4, h5⟩ := h.appended hg hrow hb
  exact ⟨A', cap', w', hrun, h1, h2, h3, h4, h5⟩

set_option maxRecDepth 100000 in
set_option maxHeartbeats 4000000 in
theorem backspace_cl (rb N : Nat) (l : List Int) (k : Nat) (kept : List Int) (w : World) (h : RB w rb l k kept) (hN : Cap w rb N) (hk : k ≤ l.length) (hk0 : 0 < k) (hl : l.length ≤ 100000) :
    Calls Tryd.prog 57 #[.pointer (some ⟨N, 0, none⟩)] w fun e w' => e = .returned (.tuple #[]) ∧ (RB w' rb (cutAt l (k - 1)) (k - 1) kept ∧ Own rb w w') := by
  obtain ⟨A, cap, B, cap2, hv⟩ := h
  have HV := Go.Lib.hid hv
  have HN := Go.Lib.hid hN
  have hle := hv.r0.le
  have hcut : cutAt l (k - 1) = l.take (k - 1) ++ l.drop k := by unfold cutAt; rw [show k - 1 + 1 = k by omega]
  obtain ⟨j, hj⟩ : ∃ j, j = k - 1 := ⟨_, rfl⟩
  rw [← hj] at hcut ⊢
  have hs1 := up_run A l.length cap j (by omega)
  have hs2 := from_run A l.length cap k hk
  obtain ⟨l', hl'⟩ : ∃ x, x = cutAt l j := ⟨_, rfl⟩
  rw [← hl'] at hcut ⊢
  have HC := Go.Lib.hid hcut
  have hw : IntKind.i64.wrap ((k : Int) - 1) = (j : Int) := by rw [IntWalk.i64_in _ (by omega)]; omega
  have hw2 : IntKind.i64.wrap ((j : Int) + 1) = (k : Int) := by rw [IntWalk.i64_in _ (by omega)]; omega
  have hk1 : ((k : Int) == 0) = false := by simp; omega
  have hjl : j ≤ l.length := by omega
  obtain ⟨c0, c1, -, -, -, -, f, sz, -⟩ := hv
  have f1 := f 1
  obtain ⟨cN, ltN, neN, -⟩ := hN
  clear f hcut hl' hj
  go_enter Tryd.func57, Tryd.ntmps57
  go_wp2_with fail
  have HV1 : Hid (RBv (w.setCell ⟨rb, 1, none⟩ (.int .i64 (j : Nat))) rb l j kept A cap B cap2) := HV.out.idx j
  have HN1 : Hid (Cap (w.setCell ⟨rb, 1, none⟩ (.int .i64 (j : Nat))) rb N) := HN.out.own ((Own.refl rb w).set 1 _)
  have O1 : Hid (Own rb w (w.setCell ⟨rb, 1, none⟩ (.int .i64 (j : Nat)))) := (Own.refl rb w).set 1 _
  clear c0 c1 cN f1
  generalize (w.setCell ⟨rb, 1, none⟩ (.int .i64 (j : Nat))) = w1 at HV1 HN1 O1 ⊢
  have c0 := HV1.out.c0
  have c1 := HV1.out.c1
  have cN := HN1.out.c
  obtain ⟨A', cap', w', hrun, hR, hO, hcell, hfro, hO2⟩ := cut_run (HV1.out.below (Below.refl _ _).drew) j k hjl hk hl l' HC.out
  have cN2 := ((HN1.out.own (Own.refl rb w1).drew).own hO2).c
  have HR := Go.Lib.hid hR
  have HO : Hid (Own rb w (w'.setCell ⟨rb, 0, none⟩ (.slice A' l'.length cap'))) := O1.out.drew.trans hO
  have q0 := (hcell 0).trans HV1.out.c0
  have q1 := (hcell 1).trans HV1.out.c1
  have g0 := (hfro 0).trans (HV1.out.f 0)
  clear hR hO hO2 hcell hfro
  refine region_held_tail 21 (S := (fun w' => w'.cell? ⟨N, 0, none⟩ = some (.pointer (some ⟨rb, 0, none⟩)) ∧ w'.cell? ⟨rb, 0, none⟩ = some (.slice A l.length cap) ∧ w'.cell? ⟨rb, 1, none⟩ = some (.int .i64 (j : Nat)))) (by kernel_rfl) (by kernel_rfl) ?_ (fun hHeld => ?_)
  · (try dsimp only); first | done | (first | exact ⟨cN, c0, c1⟩ | exact ⟨cN2, q0, q1⟩)
  refine HeldT.take (i := 0) (v := ?_) (by simp only [List.getElem?_toArray, List.getElem?_cons_succ, List.getElem?_cons_zero]; rfl) (by kernel_rfl) (by kernel_rfl) (by kernel_rfl) (by kernel_rfl) (by exact fun _ _ _ h => h) ?_ (by assumption) ?_
  rotate_left
  · refine Or.inl ⟨by rfl, ?_⟩
    (intro w hSw; (try dsimp only at hSw); go_simp; try with_reducible rfl)
  try simp only [Act.put, List.setIfInBounds_toArray, List.set_cons_zero, List.set_cons_succ]
  refine HeldT.take (i := 1) (v := ?_) (by simp only [List.getElem?_toArray, List.getElem?_cons_succ, List.getElem?_cons_zero]; rfl) (by kernel_rfl) (by kernel_rfl) (by kernel_rfl) (by kernel_rfl) (by exact fun _ _ _ h => h) ?_ (by assumption) ?_
  rotate_left
  · refine Or.inl ⟨by rfl, ?_⟩
    (intro w hSw; (try dsimp only at hSw); go_simp; try with_reducible rfl)
  try simp only [Act.put, List.setIfInBounds_toArray, List.set_cons_zero, List.set_cons_succ]
  refine HeldT.take (i := 2) (v := ?_) (by simp only [List.getElem?_toArray, List.getElem?_cons_succ, List.getElem?_cons_zero]; rfl) (by kernel_rfl) (by kernel_rfl) (by kernel_rfl) (by kernel_rfl) (by exact fun _ _ _ h => h) ?_ (by assumption) ?_
  rotate_left
  · refine Or.inl ⟨by rfl, ?_⟩
    (intro w hSw; (try dsimp only at hSw); go_simp; try with_reducible rfl)
  try simp only [Act.put, List.setIfInBounds_toArray, List.set_cons_zero, List.set_cons_succ]
  refine HeldT.take (i := 3) (v := ?_) (by simp only [List.getElem?_toArray, List.getElem?_cons_succ, List.getElem?_cons_zero]; rfl) (by kernel_rfl) (by kernel_rfl) (by kernel_rfl) (by kernel_rfl) (by exact fun _ _ _ h => h) ?_ (by assumption) ?_
  rotate_left
  · refine Or.inl ⟨by rfl, ?_⟩
    (intro w hSw; (try dsimp only at hSw); go_simp; try with_reducible rfl)
  try simp only [Act.put, List.setIfInBounds_toArray, List.set_cons_zero, List.set_cons_succ]
  refine HeldT.take (i := 4) (v := ?_) (by simp only [List.getElem?_toArray, List.getElem?_cons_succ, List.getElem?_cons_zero]; rfl) (by kernel_rfl) (by kernel_rfl) (by kernel_rfl) (by kernel_rfl) (by exact fun _ _ _ h => h) ?_ (by assumption) ?_
  rotate_left
  · refine Or.inl ⟨by rfl, ?_⟩
    (intro w hSw; (try dsimp only at hSw); go_simp; try with_reducible rfl)
  try simp only [Act.put, List.setIfInBounds_toArray, List.set_cons_zero, List.set_cons_succ]
  refine HeldT.take (i := 5) (v := ?_) (by simp only [List.getElem?_toArray, List.getElem?_cons_succ, List.getElem?_cons_zero]; rfl) (by kernel_rfl) (by kernel_rfl) (by kernel_rfl) (by kernel_rfl) (by exact fun _ _ _ h => h) ?_ (by assumption) ?_
  rotate_left
  · refine Or.inl ⟨by rfl, ?_⟩
    (intro w hSw; (try dsimp only at hSw); go_simp; try with_reducible rfl)
  try simp only [Act.put, List.setIfInBounds_toArray, List.set_cons_zero, List.set_cons_succ]
  refine HeldT.take (i := 6) (v := ?_) (by simp only [List.getElem?_toArray, List.getElem?_cons_succ, List.getElem?_cons_zero]; rfl) (by kernel_rfl) (by kernel_rfl) (by kernel_rfl) (by kernel_rfl) (by exact fun _ _ _ h => h) ?_ (by assumption) ?_
  rotate_left
  · refine Or.inl ⟨by rfl, ?_⟩
    (intro w hSw; (try dsimp only at hSw); go_simp; try with_reducible rfl)
  try simp only [Act.put, List.setIfInBounds_toArray, List.set_cons_zero, List.set_cons_succ]
  refine HeldT.take (i := 7) (v := ?_) (by simp only [List.getElem?_toArray, List.getElem?_cons_succ, List.getElem?_cons_zero]; rfl) (by kernel_rfl) (by kernel_rfl) (by kernel_rfl) (by kernel_rfl) (by exact fun _ _ _ h => h) ?_ (by assumption) ?_
  rotate_left
  · refine Or.inl ⟨by rfl, ?_⟩
    (intro w hSw; (try dsimp only at hSw); go_simp; try with_reducible rfl)
  try simp only [Act.put, List.setIfInBounds_toArray, List.set_cons_zero, List.set_cons_succ]
  refine HeldT.take (i := 8) (v := ?_) (by simp only [List.getElem?_toArray, List.getElem?_cons_succ, List.getElem?_cons_zero]; rfl) (by kernel_rfl) (by kernel_rfl) (by kernel_rfl) (by kernel_rfl) (by exact fun _ _ _ h => h) ?_ (by assumption) ?_
  rotate_left
  · refine Or.inl ⟨by rfl, ?_⟩
    (intro w hSw; (try dsimp only at hSw); go_simp; try with_reducible rfl)
  try simp only [Act.put, List.setIfInBounds_toArray, List.set_cons_zero, List.set_cons_succ]
  refine HeldT.take (i := 9) (v := ?_) (by simp only [List.getElem?_toArray, List.getElem?_cons_succ, List.getElem?_cons_zero]; rfl) (by kernel_rfl) (by kernel_rfl) (by kernel_rfl) (by kernel_rfl) (by exact fun _ _ _ h => h) ?_ (by assumption) ?_
  rotate_left
  · refine Or.inl ⟨by rfl, ?_⟩
    (intro w hSw; (try dsimp only at hSw); go_simp; try with_reducible rfl)
  try simp only [Act.put, List.setIfInBounds_toArray, List.set_cons_zero, List.set_cons_succ]
  refine HeldT.take (i := 10) (v := ?_) (by simp only [List.getElem?_toArray, List.getElem?_cons_succ, List.getElem?_cons_zero]; rfl) (by kernel_rfl) (by kernel_rfl) (by kernel_rfl) (by kernel_rfl) (by exact fun _ _ _ h => h) ?_ (by assumption) ?_
  rotate_left
  · refine Or.inl ⟨by rfl, ?_⟩
    (intro w hSw; (try dsimp only at hSw); go_simp; try with_reducible rfl)
  try simp only [Act.put, List.setIfInBounds_toArray, List.set_cons_zero, List.set_cons_succ]
  refine HeldT.take (i := 11) (v := ?_) (by simp only [List.getElem?_toArray, List.getElem?_cons_succ, List.getElem?_cons_zero]; rfl) (by kernel_rfl) (by kernel_rfl) (by kernel_rfl) (by kernel_rfl) (by exact fun _ _ _ h => h) ?_ (by assumption) ?_
  rotate_left
  · refine Or.inl ⟨by rfl, ?_⟩
    (intro w hSw; (try dsimp only at hSw); go_simp; try with_reducible rfl)
  try simp only [Act.put, List.setIfInBounds_toArray, List.set_cons_zero, List.set_cons_succ]
  refine HeldT.take (i := 12) (v := ?_) (by simp only [List.getElem?_toArray, List.getElem?_cons_succ, List.getElem?_cons_zero]; rfl) (by kernel_rfl) (by kernel_rfl) (by kernel_rfl) (by kernel_rfl) (by exact fun _ _ _ h => h) ?_ (by assumption) ?_
  rotate_left
  · refine Or.inl ⟨by rfl, ?_⟩
    (intro w hSw; (try dsimp only at hSw); go_simp; try with_reducible rfl)
  try simp only [Act.put, List.setIfInBounds_toArray, List.set_cons_zero, List.set_cons_succ]
  refine HeldT.take (i := 13) (v := ?_) (by simp only [List.getElem?_toArray, List.getElem?_cons_succ, List.getElem?_cons_zero]; rfl) (by kernel_rfl) (by kernel_rfl) (by kernel_rfl) (by kernel_rfl) (by exact fun _ _ _ h => h) ?_ (by assumption) ?_
  rotate_left
  · refine Or.inl ⟨by rfl, ?_⟩
    (intro w hSw; (try dsimp only at hSw); go_simp; try with_reducible rfl)
  try simp only [Act.put, List.setIfInBounds_toArray, List.set_cons_zero, List.set_cons_succ]
  refine HeldT.take (i := 14) (v := ?_) (by simp only [List.getElem?_toArray, List.getElem?_cons_succ, List.getElem?_cons_zero]; rfl) (by kernel_rfl) (by kernel_rfl) (by kernel_rfl) (by kernel_rfl) (by exact fun _ _ _ h => h) ?_ (by assumption) ?_
  rotate_left
  · refine Or.inl ⟨by rfl, ?_⟩
    (intro w hSw; (try dsimp only at hSw); go_simp; try with_reducible rfl)
  try simp only [Act.put, List.setIfInBounds_toArray, List.set_cons_zero, List.set_cons_succ]
  refine HeldT.take (i := 15) (v := ?_) (by simp only [List.getElem?_toArray, List.getElem?_cons_succ, List.getElem?_cons_zero]; rfl) (by kernel_rfl) (by kernel_rfl) (by kernel_rfl) (by kernel_rfl) (by exact fun _ _ _ h => h) ?_ (by assumption) ?_
  rotate_left
  · refine Or.inl ⟨by rfl, ?_⟩
    (intro w hSw; (try dsimp only at hSw); go_simp; try with_reducible rfl)
  try simp only [Act.put, List.setIfInBounds_toArray, List.set_cons_zero, List.set_cons_succ]
  refine HeldT.take (i := 16) (v := ?_) (by simp only [List.getElem?_toArray, List.getElem?_cons_succ, List.getElem?_cons_zero]; rfl) (by kernel_rfl) (by kernel_rfl) (by kernel_rfl) (by kernel_rfl) (by exact fun _ _ _ h => h) ?_ (by assumption) ?_
  rotate_left
  · refine Or.inl ⟨by rfl, ?_⟩
    (intro w hSw; (try dsimp only at hSw); go_simp; try with_reducible rfl)
  try simp only [Act.put, List.setIfInBounds_toArray, List.set_cons_zero, List.set_cons_succ]
  refine HeldT.take (i := 17) (v := ?_) (by simp only [List.getElem?_toArray, List.getElem?_cons_succ, List.getElem?_cons_zero]; rfl) (by kernel_rfl) (by kernel_rfl) (by kernel_rfl) (by kernel_rfl) (by exact fun _ _ _ h => h) ?_ (by assumption) ?_
  rotate_left
  · refine Or.inl ⟨by rfl, ?_⟩
    (intro w hSw; (try dsimp only at hSw); go_simp; try with_reducible rfl)
  try simp only [Act.put, List.setIfInBounds_toArray, List.set_cons_zero, List.set_cons_succ]
  refine HeldT.take (i := 18) (v := ?_) (by simp only [List.getElem?_toArray, List.getElem?_cons_succ, List.getElem?_cons_zero]; rfl) (by kernel_rfl) (by kernel_rfl) (by kernel_rfl) (by kernel_rfl) (by exact fun _ _ _ h => h) ?_ (by assumption) ?_
  rotate_left
  · refine Or.inl ⟨by rfl, ?_⟩
    (intro w hSw; (try dsimp only at hSw); go_simp; try with_reducible rfl)
  try simp only [Act.put, List.setIfInBounds_toArray, List.set_cons_zero, List.set_cons_succ]
  refine HeldT.take (i := 19) (v := ?_) (by simp only [List.getElem?_toArray, List.getElem?_cons_succ, List.getElem?_cons_zero]; rfl) (by kernel_rfl) (by kernel_rfl) (by kernel_rfl) (by kernel_rfl) (by exact fun _ _ _ h => h) ?_ (by assumption) ?_
  rotate_left
  · refine Or.inl ⟨by rfl, ?_⟩
    (intro w hSw; (try dsimp only at hSw); go_simp; try with_reducible rfl)
  try simp only [Act.put, List.setIfInBounds_toArray, List.set_cons_zero, List.set_cons_succ]
  refine HeldT.one (i := 20) (by simp only [List.getElem?_toArray, List.getElem?_cons_succ, List.getElem?_cons_zero]; rfl) (by kernel_rfl) (by kernel_rfl) (fun K hK => ?_)
  (refine step_append_run (by rfl) _ _ _ (by rfl) _ _ _ (by rfl) (by rfl) hrun ?_)
  refine hK.out _ _ ?_ (fun hHeld => ?_)
  · (try dsimp only); first | done | (first | exact ⟨cN, c0, c1⟩ | exact ⟨cN2, q0, q1⟩)
  clear hK K
  try simp only [Act.put, List.setIfInBounds_toArray, List.set_cons_zero, List.set_cons_succ]
  refine HeldT.tail (by kernel_rfl) rfl ?_
  go_wp2_with fail
  go_returns
  exact ⟨rfl, ⟨_, _, _, _, HR.out⟩, HO.out⟩
end Go.Proofs.YtoimdbmjpkmkfaaDoor

/- pushKill, the closures of Kill, Delete, WriteRunes and SetWithIdx. -/
namespace Go.Proofs.YtoimdbmjpkmkfaaDoor
open Go.RowKit
set_option linter.unusedVariables false
set_option linter.unusedSimpArgs false

theorem Src.below {w w' : World} {C : Option Addr} {m c : Nat} {xs : List Int} (h : Src w C m c xs) (hb : Below w.heap.size w w') : Src w' C m c xs := by
  refine ⟨h.1, ?_⟩
  rcases h.2 with h | ⟨ad, h, hc⟩
  · exact .inl h
  · exact .inr ⟨ad, h, fun j u hu => by
      have := hc j u hu
      exact (hb.cell (World.block_lt_of_cell? w _ this)).trans this⟩

theorem row_empty (w : World) (base : Nat) (h : base ≤ w.heap.size) : Row (w.alloc (.cells #[] 21)) base (some ⟨w.heap.size, 0, none⟩) 0 [] :=
  ⟨rfl, .inr ⟨w.heap.size, 0, #[], rfl, h, heap_alloc_new w _, Nat.le_refl _, Nat.zero_le _, rfl, rfl⟩⟩

set_option maxHeartbeats 2000000 in
theorem push_kill {w : World} {rb : Nat} {l : List Int} {k : Nat} {kept : List Int} {A : Option Addr} {cap : Nat} {B : Option Addr} {cap2 : Nat} (h : RBv w rb l k kept A cap B cap2) (C : Option Addr) (m c : Nat) (xs : List Int) (hs : Src w C m c xs) (hx : xs.length ≤ 100000) :
    Calls Tryd.prog 56 #[.pointer (some ⟨rb, 0, none⟩), .slice C m c] w fun e w' => e = .returned (.tuple #[]) ∧ (∃ B' cap', RBv w' rb l k xs A cap B' cap') ∧ Own rb w w' := by
  have hb0 : Below w.heap.size w (w.alloc (.cells #[] 21)) := (Below.refl _ _).alloc (Nat.le_refl _) _
  obtain ⟨B', cap', w1, hrun, hrow, hg, hb⟩ := run_append_row _ (rb + 1) _ 0 [] (row_empty w (rb + 1) (by have := h.sz; omega)) C m c xs (hs.below hb0) (by have := h.sz; simp; omega) (by simp; omega)
  have hb1 : Below w.heap.size w w1 := hb0.grown hg (by simp) (fun q hq => Nat.le_of_eq (by simpa [blk] using hq))
  have hv1 := h.below hb1
  have hap : ∀ g, blk A = some g → blk B' ≠ some g := fun g hg' hB => by
    have := (h.r0.blk_lt hg').2.1
    rcases hb with e | e
    · rw [e] at hB; have : w.heap.size = g := by simpa [blk] using hB
      omega
    · rw [e] at hB; have : w.heap.size + 1 = g := by simpa using hB
      omega
  have hv2 := hv1.kill hrow hap
  rw [List.nil_append] at hrun hv2
  have HV := Go.Lib.hid hv2
  have O1 : Hid (Own rb w (w1.setCell ⟨rb, 10, none⟩ (.slice B' xs.length cap'))) := ((Own.refl rb w).after hb1).set 10 _
  have c10 := hv1.c10
  have f10 := hv1.f 10
  have sz1 := hv1.sz
  clear hb0 hg hb1 hv1 hap hv2 hrow hb h hs
  go_enter Tryd.func56, Tryd.ntmps56
  go_wp2_with (at_builtin; refine wpList_append_run (by rfl) _ _ _ (by rfl) _ _ _ (by rfl) (by rfl) hrun ?_)
  go_returns
  exact ⟨rfl, ⟨_, _, HV.out⟩, O1.out⟩

theorem mid_run (A : Option Addr) (n cap i j : Nat) (h : i ≤ j) (hj : j ≤ cap) : ∀ w, (Instr.slice 38 (.slice A n cap) (some (.int .i64 (i : Nat))) (some (.int .i64 (j : Nat))) none).run Tryd.prog w = .ok (.slice (fromA A cap i) (j - i) (cap - i)) w := fun w => by
  have he : Tryd.prog.elem 38 = 21 := by simp [Program.elem, Tryd.underlying38]
  rw [run_slice_lh w 38 _ n cap (by rw [he]; exact Tryd.underlying38) .i64 .i64 i j (by omega) (by omega) (by omega), sizeI]
  simp only [Result.andThen, sliced, Nat.mul_one, Int.toNat_natCast, fromA]

set_option maxRecDepth 100000 in
set_option maxHeartbeats 4000000 in
theorem kill_cl (rb N : Nat) (l : List Int) (k : Nat) (kept : List Int) (w : World) (h : RB w rb l k kept) (hN : Cap w rb N) (hk : k ≤ l.length) (hl : l.length ≤ 100000) :
    Calls Tryd.prog 79 #[.pointer (some ⟨N, 0, none⟩)] w fun e w' => e = .returned (.tuple #[]) ∧ (RB w' rb (l.take k) k (l.drop k) ∧ Own rb w w') := by
  obtain ⟨A, cap, B, cap2, hv⟩ := h
  have HV := Go.Lib.hid hv
  have HN := Go.Lib.hid hN
  have hle := hv.r0.le
  have hs1 := from_run A l.length cap k hk
  have hs2 := up_run A l.length cap k (by omega)
  obtain ⟨c0, c1, -, -, -, -, f, sz, -⟩ := hv
  obtain ⟨cN, ltN, neN, -⟩ := hN
  clear f
  go_enter Tryd.func79, Tryd.ntmps79
  go_wp2_with fail
  refine region_quiet_tail 10 (by kernel_rfl) (by kernel_rfl) ?_
  simp only [List.take_succ_cons, List.take_zero, List.drop_succ_cons, List.drop_zero]
  repeat (go_big_quiet_step (fail))
  refine wpQuiet_nil ?_
  intro _ hw'
  obtain ⟨nq, hw''⟩ := hw'
  subst hw''
  have HV1 : Hid (RBv (w.drewN nq) rb l k kept A cap B cap2) := HV.out.below (below_drewN (Below.refl _ _) _)
  have hsrc := row_src HV1.out.r0 k l.length hk (Nat.le_refl _)
  rw [List.take_of_length_le (Nat.le_refl _)] at hsrc
  have HSRC := Go.Lib.hid hsrc
  clear hsrc
  go_wp2_with fail
  refine (push_kill HV1.out _ _ _ _ HSRC.out (by simp; omega)).mono ?_
  rintro e w1 ⟨rfl, ⟨B', cap', h1⟩, o1⟩
  have H1 := Go.Lib.hid h1
  have HN1 : Hid (Cap w1 rb N) := HN.out.own (((Own.refl rb w).drewN nq).trans o1)
  have O1 : Hid (Own rb w w1) := ((Own.refl rb w).drewN nq).trans o1
  clear h1 o1 c0 c1 cN
  have c0 := H1.out.c0
  have c1 := H1.out.c1
  have f0 := H1.out.f 0
  have cN := HN1.out.c
  have sz1 := H1.out.sz
  go_wp2_with fail
  refine region_quiet_tail 12 (by kernel_rfl) (by kernel_rfl) ?_
  simp only [List.take_succ_cons, List.take_zero, List.drop_succ_cons, List.drop_zero]
  repeat (go_big_quiet_step (fail))
  refine wpQuiet_nil ?_
  intro _ hw'
  obtain ⟨nq, hw''⟩ := hw'
  subst hw''
  go_wp2_with fail
  go_returns
  have hlk : (l.take k).length = k := by simp; omega
  have hv2 := (H1.out.below (below_drewN (Below.refl w1.heap.size w1) nq)).buf ((H1.out.below (below_drewN (Below.refl w1.heap.size w1) nq)).r0.take k hk) H1.out.ap
  rw [hlk] at hv2
  exact ⟨rfl, ⟨_, _, _, _, hv2⟩, (O1.out.drewN _).set _ _⟩

set_option maxRecDepth 100000 in
set_option maxHeartbeats 4000000 in
theorem delete_cl (rb N M : Nat) (l : List Int) (k : Nat) (kept : List Int) (w : World) (h : RB w rb l k kept) (hN : Cap w rb N) (hM : w.cell? ⟨M, 0, none⟩ = some (.bool false) ∧ w.frozen? ⟨M, 0, none⟩ = false ∧ M < w.heap.size ∧ M ≠ rb ∧ ¬ I32 w M) (hk : k < l.length) (hl : l.length ≤ 100000) :
    Calls Tryd.prog 55 #[.pointer (some ⟨N, 0, none⟩), .pointer (some ⟨M, 0, none⟩)] w fun e w' => e = .returned (.tuple #[]) ∧ ∃ w1, (RB w1 rb (cutAt l k) k ((l.take (k + 1)).drop k) ∧ Own rb w w1) ∧ w1.cell? ⟨M, 0, none⟩ = some (.bool false) ∧ ¬ I32 w1 M ∧ w' = w1.setCell ⟨M, 0, none⟩ (.bool true) := by
  obtain ⟨A, cap, B, cap2, hv⟩ := h
  have HV := Go.Lib.hid hv
  have HN := Go.Lib.hid hN
  have HM := Go.Lib.hid hM
  have hle := hv.r0.le
  obtain ⟨m, hm⟩ : ∃ m, m = k + 1 := ⟨_, rfl⟩
  have hs1 := mid_run A l.length cap k m (by omega) (by omega)
  have hs2 := up_run A l.length cap k (by omega)
  have hs3 := from_run A l.length cap m (by omega)
  have hmk : m - k = 1 := by omega
  have hmk2 : k ≤ m := by omega
  have hml : m ≤ l.length := by omega
  have hw2 : IntKind.i64.wrap ((k : Int) + 1) = (m : Int) := by rw [IntWalk.i64_in _ (by omega)]; omega
  have hcut : cutAt l k = l.take k ++ l.drop m := by rw [hm]; rfl
  obtain ⟨l', hl'⟩ : ∃ x, x = cutAt l k := ⟨_, rfl⟩
  rw [← hl', ← hm]
  rw [← hl'] at hcut
  have HC := Go.Lib.hid hcut
  have e' : ((k : Int) == (l.length : Int)) = false := by simp; omega
  have HMK := Go.Lib.hid hmk
  have hkl : k ≤ l.length := by omega
  obtain ⟨c0, c1, -, -, -, -, f, sz, -⟩ := hv
  obtain ⟨cN, ltN, neN, -⟩ := hN
  clear f hcut hl' hm hM hmk
  go_enter Tryd.func55, Tryd.ntmps55
  go_wp2_with fail
  go_quiet (fail)
  go_wp2_with fail
  have HV0 : Hid (RBv (w.drewN nq) rb l k kept A cap B cap2) := HV.out.below (below_drewN (Below.refl _ _) _)
  have HN0 : Hid (Cap (w.drewN nq) rb N) := HN.out.own ((Own.refl rb w).drewN nq)
  have O0 : Hid (Own rb w (w.drewN nq)) := (Own.refl rb w).drewN nq
  clear c0 c1 cN ltN
  generalize w.drewN nq = w0 at HV0 HN0 O0 ⊢
  have c0 := HV0.out.c0
  have c1 := HV0.out.c1
  have cN := HN0.out.c
  refine region_quiet_tail 15 (by kernel_rfl) (by kernel_rfl) ?_
  simp only [List.take_succ_cons, List.take_zero, List.drop_succ_cons, List.drop_zero]
  repeat (go_big_quiet_step (fail))
  refine wpQuiet_nil ?_
  intro _ hw'
  obtain ⟨nq, hw''⟩ := hw'
  subst hw''
  have HV1 : Hid (RBv (w0.drewN nq) rb l k kept A cap B cap2) := HV0.out.below (below_drewN (Below.refl _ _) _)
  have HSRC := Go.Lib.hid (row_src HV1.out.r0 k m hmk2 hml)
  go_wp2_with fail
  refine (push_kill HV1.out _ _ _ _ HSRC.out (by simp; omega)).mono ?_
  rintro e w1 ⟨rfl, ⟨B', cap', h1⟩, o1⟩
  have H1 := Go.Lib.hid h1
  have O1 : Hid (Own rb w w1) := (O0.out.drewN nq).trans o1
  have HN1 : Hid (Cap w1 rb N) := HN.out.own O1.out
  clear h1 o1 c0 c1 cN
  have c0 := H1.out.c0
  have c1 := H1.out.c1
  have cN := HN1.out.c
  have f0 := H1.out.f 0
  have sz1 := H1.out.sz
  obtain ⟨A', cap3, w', hrun, hR, hO, hcell, hfro, hO2⟩ := cut_run (H1.out.below (Below.refl _ _).drew) k m hkl hml hl l' HC.out
  have cN2 := ((HN1.out.own (Own.refl rb w1).drew).own hO2).c
  have HR := Go.Lib.hid hR
  have HO : Hid (Own rb w (w'.setCell ⟨rb, 0, none⟩ (.slice A' l'.length cap3))) := O1.out.drew.trans hO
  have q0 := (hcell 0).trans H1.out.c0
  have q1 := (hcell 1).trans H1.out.c1
  have g0 := (hfro 0).trans (H1.out.f 0)
  have eM := HO.out.rest M HM.out.2.2.1 HM.out.2.2.2.1 (.inr HM.out.2.2.2.2)
  have cM : (w'.setCell ⟨rb, 0, none⟩ (.slice A' l'.length cap3)).cell? ⟨M, 0, none⟩ = some (.bool false) := (World.cell?_of_block (w := w) eM).trans HM.out.1
  have fM : (w'.setCell ⟨rb, 0, none⟩ (.slice A' l'.length cap3)).frozen? ⟨M, 0, none⟩ = false := (World.frozen?_of_block (w := w) eM).trans HM.out.2.1
  have HNI : Hid (¬ I32 (w'.setCell ⟨rb, 0, none⟩ (.slice A' l'.length cap3)) M) := fun h' => HM.out.2.2.2.2 (h'.of eM.symm)
  clear hR hO hO2 hcell hfro eM
  go_wp2_with fail
  refine region_held_tail 21 (S := (fun w' => w'.cell? ⟨N, 0, none⟩ = some (.pointer (some ⟨rb, 0, none⟩)) ∧ w'.cell? ⟨rb, 0, none⟩ = some (.slice A l.length cap) ∧ w'.cell? ⟨rb, 1, none⟩ = some (.int .i64 (k : Nat)))) (by kernel_rfl) (by kernel_rfl) ?_ (fun hHeld => ?_)
  · (try dsimp only); first | done | (first | exact ⟨cN, c0, c1⟩ | exact ⟨cN2, q0, q1⟩)
  refine HeldT.take (i := 0) (v := ?_) (by simp only [List.getElem?_toArray, List.getElem?_cons_succ, List.getElem?_cons_zero]; rfl) (by kernel_rfl) (by kernel_rfl) (by kernel_rfl) (by kernel_rfl) (by exact fun _ _ _ h => h) ?_ (by assumption) ?_
  rotate_left
  · refine Or.inl ⟨by rfl, ?_⟩
    (intro w hSw; (try dsimp only at hSw); go_simp; try with_reducible rfl)
  try simp only [Act.put, List.setIfInBounds_toArray, List.set_cons_zero, List.set_cons_succ]
  refine HeldT.take (i := 1) (v := ?_) (by simp only [List.getElem?_toArray, List.getElem?_cons_succ, List.getElem?_cons_zero]; rfl) (by kernel_rfl) (by kernel_rfl) (by kernel_rfl) (by kernel_rfl) (by exact fun _ _ _ h => h) ?_ (by assumption) ?_
  rotate_left
  · refine Or.inl ⟨by rfl, ?_⟩
    (intro w hSw; (try dsimp only at hSw); go_simp; try with_reducible rfl)
  try simp only [Act.put, List.setIfInBounds_toArray, List.set_cons_zero, List.set_cons_succ]
  refine HeldT.take (i := 2) (v := ?_) (by simp only [List.getElem?_toArray, List.getElem?_cons_succ, List.getElem?_cons_zero]; rfl) (by kernel_rfl) (by kernel_rfl) (by kernel_rfl) (by kernel_rfl) (by exact fun _ _ _ h => h) ?_ (by assumption) ?_
  rotate_left
  · refine Or.inl ⟨by rfl, ?_⟩
    (intro w hSw; (try dsimp only at hSw); go_simp; try with_reducible rfl)
  try simp only [Act.put, List.setIfInBounds_toArray, List.set_cons_zero, List.set_cons_succ]
  refine HeldT.take (i := 3) (v := ?_) (by simp only [List.getElem?_toArray, List.getElem?_cons_succ, List.getElem?_cons_zero]; rfl) (by kernel_rfl) (by kernel_rfl) (by kernel_rfl) (by kernel_rfl) (by exact fun _ _ _ h => h) ?_ (by assumption) ?_
  rotate_left
  · refine Or.inl ⟨by rfl, ?_⟩
    (intro w hSw; (try dsimp only at hSw); go_simp; try with_reducible rfl)
  try simp only [Act.put, List.setIfInBounds_toArray, List.set_cons_zero, List.set_cons_succ]
  refine HeldT.take (i := 4) (v := ?_) (by simp only [List.getElem?_toArray, List.getElem?_cons_succ, List.getElem?_cons_zero]; rfl) (by kernel_rfl) (by kernel_rfl) (by kernel_rfl) (by kernel_rfl) (by exact fun _ _ _ h => h) ?_ (by assumption) ?_
  rotate_left
  · refine Or.inl ⟨by rfl, ?_⟩
    (intro w hSw; (try dsimp only at hSw); go_simp; try with_reducible rfl)
  try simp only [Act.put, List.setIfInBounds_toArray, List.set_cons_zero, List.set_cons_succ]
  refine HeldT.take (i := 5) (v := ?_) (by simp only [List.getElem?_toArray, List.getElem?_cons_succ, List.getElem?_cons_zero]; rfl) (by kernel_rfl) (by kernel_rfl) (by kernel_rfl) (by kernel_rfl) (by exact fun _ _ _ h => h) ?_ (by assumption) ?_
  rotate_left
  · refine Or.inl ⟨by rfl, ?_⟩
    (intro w hSw; (try dsimp only at hSw); go_simp; try with_reducible rfl)
  try simp only [Act.put, List.setIfInBounds_toArray, List.set_cons_zero, List.set_cons_succ]
  refine HeldT.take (i := 6) (v := ?_) (by simp only [List.getElem?_toArray, List.getElem?_cons_succ, List.getElem?_cons_zero]; rfl) (by kernel_rfl) (by kernel_rfl) (by kernel_rfl) (by kernel_rfl) (by exact fun _ _ _ h => h) ?_ (by assumption) ?_
  rotate_left
  · refine Or.inl ⟨by rfl, ?_⟩
    (intro w hSw; (try dsimp only at hSw); go_simp; try with_reducible rfl)
  try simp only [Act.put, List.setIfInBounds_toArray, List.set_cons_zero, List.set_cons_succ]
  refine HeldT.take (i := 7) (v := ?_) (by simp only [List.getElem?_toArray, List.getElem?_cons_succ, List.getElem?_cons_zero]; rfl) (by kernel_rfl) (by kernel_rfl) (by kernel_rfl) (by kernel_rfl) (by exact fun _ _ _ h => h) ?_ (by assumption) ?_
  rotate_left
  · refine Or.inl ⟨by rfl, ?_⟩
    (intro w hSw; (try dsimp only at hSw); go_simp; try with_reducible rfl)
  try simp only [Act.put, List.setIfInBounds_toArray, List.set_cons_zero, List.set_cons_succ]
  refine HeldT.take (i := 8) (v := ?_) (by simp only [List.getElem?_toArray, List.getElem?_cons_succ, List.getElem?_cons_zero]; rfl) (by kernel_rfl) (by kernel_rfl) (by kernel_rfl) (by kernel_rfl) (by exact fun _ _ _ h => h) ?_ (by assumption) ?_
  rotate_left
  · refine Or.inl ⟨by rfl, ?_⟩
    (intro w hSw; (try dsimp only at hSw); go_simp; try with_reducible rfl)
  try simp only [Act.put, List.setIfInBounds_toArray, List.set_cons_zero, List.set_cons_succ]
  refine HeldT.take (i := 9) (v := ?_) (by simp only [List.getElem?_toArray, List.getElem?_cons_succ, List.getElem?_cons_zero]; rfl) (by kernel_rfl) (by kernel_rfl) (by kernel_rfl) (by kernel_rfl) (by exact fun _ _ _ h => h) ?_ (by assumption) ?_
  rotate_left
  · refine Or.inl ⟨by rfl, ?_⟩
    (intro w hSw; (try dsimp only at hSw); go_simp; try with_reducible rfl)
  try simp only [Act.put, List.setIfInBounds_toArray, List.set_cons_zero, List.set_cons_succ]
  refine HeldT.take (i := 10) (v := ?_) (by simp only [List.getElem?_toArray, List.getElem?_cons_succ, List.getElem?_cons_zero]; rfl) (by kernel_rfl) (by kernel_rfl) (by kernel_rfl) (by kernel_rfl) (by exact fun _ _ _ h => h) ?_ (by assumption) ?_
  rotate_left
  · refine Or.inl ⟨by rfl, ?_⟩
    (intro w hSw; (try dsimp only at hSw); go_simp; try with_reducible rfl)
  try simp only [Act.put, List.setIfInBounds_toArray, List.set_cons_zero, List.set_cons_succ]
  refine HeldT.take (i := 11) (v := ?_) (by simp only [List.getElem?_toArray, List.getElem?_cons_succ, List.getElem?_cons_zero]; rfl) (by kernel_rfl) (by kernel_rfl) (by kernel_rfl) (by kernel_rfl) (by exact fun _ _ _ h => h) ?_ (by assumption) ?_
  rotate_left
  · refine Or.inl ⟨by rfl, ?_⟩
    (intro w hSw; (try dsimp only at hSw); go_simp; try with_reducible rfl)
  try simp only [Act.put, List.setIfInBounds_toArray, List.set_cons_zero, List.set_cons_succ]
  refine HeldT.take (i := 12) (v := ?_) (by simp only [List.getElem?_toArray, List.getElem?_cons_succ, List.getElem?_cons_zero]; rfl) (by kernel_rfl) (by kernel_rfl) (by kernel_rfl) (by kernel_rfl) (by exact fun _ _ _ h => h) ?_ (by assumption) ?_
  rotate_left
  · refine Or.inl ⟨by rfl, ?_⟩
    (intro w hSw; (try dsimp only at hSw); go_simp; try with_reducible rfl)
  try simp only [Act.put, List.setIfInBounds_toArray, List.set_cons_zero, List.set_cons_succ]
  refine HeldT.take (i := 13) (v := ?_) (by simp only [List.getElem?_toArray, List.getElem?_cons_succ, List.getElem?_cons_zero]; rfl) (by kernel_rfl) (by kernel_rfl) (by kernel_rfl) (by kernel_rfl) (by exact fun _ _ _ h => h) ?_ (by assumption) ?_
  rotate_left
  · refine Or.inl ⟨by rfl, ?_⟩
    (intro w hSw; (try dsimp only at hSw); go_simp; try with_reducible rfl)
  try simp only [Act.put, List.setIfInBounds_toArray, List.set_cons_zero, List.set_cons_succ]
  refine HeldT.take (i := 14) (v := ?_) (by simp only [List.getElem?_toArray, List.getElem?_cons_succ, List.getElem?_cons_zero]; rfl) (by kernel_rfl) (by kernel_rfl) (by kernel_rfl) (by kernel_rfl) (by exact fun _ _ _ h => h) ?_ (by assumption) ?_
  rotate_left
  · refine Or.inl ⟨by rfl, ?_⟩
    (intro w hSw; (try dsimp only at hSw); go_simp; try with_reducible rfl)
  try simp only [Act.put, List.setIfInBounds_toArray, List.set_cons_zero, List.set_cons_succ]
  refine HeldT.take (i := 15) (v := ?_) (by simp only [List.getElem?_toArray, List.getElem?_cons_succ, List.getElem?_cons_zero]; rfl) (by kernel_rfl) (by kernel_rfl) (by kernel_rfl) (by kernel_rfl) (by exact fun _ _ _ h => h) ?_ (by assumption) ?_
  rotate_left
  · refine Or.inl ⟨by rfl, ?_⟩
    (intro w hSw; (try dsimp only at hSw); go_simp; try with_reducible rfl)
  try simp only [Act.put, List.setIfInBounds_toArray, List.set_cons_zero, List.set_cons_succ]
  refine HeldT.take (i := 16) (v := ?_) (by simp only [List.getElem?_toArray, List.getElem?_cons_succ, List.getElem?_cons_zero]; rfl) (by kernel_rfl) (by kernel_rfl) (by kernel_rfl) (by kernel_rfl) (by exact fun _ _ _ h => h) ?_ (by assumption) ?_
  rotate_left
  · refine Or.inl ⟨by rfl, ?_⟩
    (intro w hSw; (try dsimp only at hSw); go_simp; try with_reducible rfl)
  try simp only [Act.put, List.setIfInBounds_toArray, List.set_cons_zero, List.set_cons_succ]
  refine HeldT.take (i := 17) (v := ?_) (by simp only [List.getElem?_toArray, List.getElem?_cons_succ, List.getElem?_cons_zero]; rfl) (by kernel_rfl) (by kernel_rfl) (by kernel_rfl) (by kernel_rfl) (by exact fun _ _ _ h => h) ?_ (by assumption) ?_
  rotate_left
  · refine Or.inl ⟨by rfl, ?_⟩
    (intro w hSw; (try dsimp only at hSw); go_simp; try with_reducible rfl)
  try simp only [Act.put, List.setIfInBounds_toArray, List.set_cons_zero, List.set_cons_succ]
  refine HeldT.take (i := 18) (v := ?_) (by simp only [List.getElem?_toArray, List.getElem?_cons_succ, List.getElem?_cons_zero]; rfl) (by kernel_rfl) (by kernel_rfl) (by kernel_rfl) (by kernel_rfl) (by exact fun _ _ _ h => h) ?_ (by assumption) ?_
  rotate_left
  · refine Or.inl ⟨by rfl, ?_⟩
    (intro w hSw; (try dsimp only at hSw); go_simp; try with_reducible rfl)
  try simp only [Act.put, List.setIfInBounds_toArray, List.set_cons_zero, List.set_cons_succ]
  refine HeldT.take (i := 19) (v := ?_) (by simp only [List.getElem?_toArray, List.getElem?_cons_succ, List.getElem?_cons_zero]; rfl) (by kernel_rfl) (by kernel_rfl) (by kernel_rfl) (by kernel_rfl) (by exact fun _ _ _ h => h) ?_ (by assumption) ?_
  rotate_left
  · refine Or.inl ⟨by rfl, ?_⟩
    (intro w hSw; (try dsimp only at hSw); go_simp; try with_reducible rfl)
  try simp only [Act.put, List.setIfInBounds_toArray, List.set_cons_zero, List.set_cons_succ]
  refine HeldT.one (i := 20) (by simp only [List.getElem?_toArray, List.getElem?_cons_succ, List.getElem?_cons_zero]; rfl) (by kernel_rfl) (by kernel_rfl) (fun K hK => ?_)
  (refine step_append_run (by rfl) _ _ _ (by rfl) _ _ _ (by rfl) (by rfl) hrun ?_)
  refine hK.out _ _ ?_ (fun hHeld => ?_)
  · (try dsimp only); first | done | (first | exact ⟨cN, c0, c1⟩ | exact ⟨cN2, q0, q1⟩)
  clear hK K
  try simp only [Act.put, List.setIfInBounds_toArray, List.set_cons_zero, List.set_cons_succ]
  refine HeldT.tail (by kernel_rfl) rfl ?_
  go_wp2_with fail
  go_returns
  exact ⟨rfl, _, ⟨⟨_, _, _, _, HR.out⟩, HO.out⟩, cM, HNI.out, rfl⟩
end Go.Proofs.YtoimdbmjpkmkfaaDoor

/- The closures of WriteRunes and SetWithIdx; WriteString. -/
namespace Go.Proofs.YtoimdbmjpkmkfaaDoor
open Go.RowKit
set_option linter.unusedVariables false
set_option linter.unusedSimpArgs false

/-- A variable of the call's own, of no row of code points, that holds a value. -/
structure Var (w : World) (rb N : Nat) (v : Value) : Prop where
  c : w.cell? ⟨N, 0, none⟩ = some v
  lt : N < w.heap.size
  ne : N ≠ rb
  ni : ¬ I32 w N
theorem Var.own {w w' : World} {rb N : Nat} {v : Value} (h : Var w rb N v) (ho : Own rb w w') : Var w' rb N v := by
  have e := ho.rest N h.lt h.ne (.inr h.ni)
  exact ⟨(World.cell?_of_block (w := w) e).trans h.c, Nat.lt_of_lt_of_le h.lt ho.size, h.ne, fun h' => h.ni (h'.of e.symm)⟩
theorem var_new (w : World) (rb : Nat) (v : Value) (T : TypeId) (hT : T ≠ 21) (h : rb < w.heap.size) : Var (w.alloc (.cells #[v] T)) rb w.heap.size v :=
  ⟨by simp [go_sem], by simp, by omega, fun ⟨cur, fr, e⟩ => by
    rw [heap_alloc_new] at e
    simp at e
    exact hT e.2.1⟩

/-- Rows that lie apart from an appended one are as they were. -/
theorem RBv.apart {w w' : World} {rb : Nat} {l : List Int} {k : Nat} {kept : List Int} {A : Option Addr} {cap : Nat} {B : Option Addr} {cap2 : Nat} (h : RBv w rb l k kept A cap B cap2) {row : Option Nat} (hg : w.grownBy w' row) (hrow : ∀ g, row = some g → rb < g ∧ blk A ≠ some g ∧ blk B ≠ some g) : RBv w' rb l k kept A cap B cap2 := by
  have e : w'.heap[rb]? = w.heap[rb]? := hg.block rb h.sz (fun e => by have := (hrow rb e.symm).1; omega)
  have c : ∀ j, w'.cell? ⟨rb, j, none⟩ = w.cell? ⟨rb, j, none⟩ := fun j => World.cell?_of_block (w := w) e
  exact ⟨(c _).trans h.c0, (c _).trans h.c1, (c _).trans h.c10, h.r0.kept fun k _ h2 _ h3 => hg.block k h2 (fun e => (hrow k e.symm).2.1 h3), h.r10.kept fun k _ h2 _ h3 => hg.block k h2 (fun e => (hrow k e.symm).2.2 h3), h.ap, fun j => (World.frozen?_of_block (w := w) e).trans (h.f j), by have := h.sz; have := hg.size; omega, fun h' => h.ni (h'.of e.symm)⟩

set_option maxRecDepth 100000 in
set_option maxHeartbeats 4000000 in
theorem write_cl (rb N M : Nat) (l : List Int) (k : Nat) (kept xs : List Int) (S : Option Addr) (capS : Nat) (w : World) (A : Option Addr) (cap : Nat) (B : Option Addr) (cap2 : Nat) (hv : RBv w rb l k kept A cap B cap2) (hN : Cap w rb N) (hM : Var w rb M (.slice S xs.length capS))
    (hS : Row w (rb + 1) S capS xs) (hap : ∀ g, blk S = some g → blk A ≠ some g ∧ blk B ≠ some g) (hk : k ≤ l.length) (hl : l.length ≤ 100000) (hx : xs.length ≤ 100000) :
    Calls Tryd.prog 72 #[.pointer (some ⟨M, 0, none⟩), .pointer (some ⟨N, 0, none⟩)] w fun e w' => e = .returned (.tuple #[]) ∧ (RB w' rb (l.take k ++ (xs ++ l.drop k)) (k + xs.length) kept ∧ Own rb w w') := by
  have HV := Go.Lib.hid hv
  have HN := Go.Lib.hid hN
  have HM := Go.Lib.hid hM
  have HS := Go.Lib.hid hS
  have HAP := Go.Lib.hid hap
  have hle := hv.r0.le
  have hs1 := from_run A l.length cap k hk
  have hs2 := up_run A l.length cap k (by omega)
  have hw : IntKind.i64.wrap ((k : Int) + (xs.length : Int)) = (k : Int) + (xs.length : Int) := IntWalk.i64_in _ (by omega)
  obtain ⟨c0, c1, -, -, -, -, f, sz, -⟩ := hv
  obtain ⟨cN, ltN, neN, -⟩ := hN
  have cM := hM.c
  clear f hM hS hap
  go_enter Tryd.func72, Tryd.ntmps72
  go_wp2_with fail
  refine region_quiet_tail 10 (by kernel_rfl) (by kernel_rfl) ?_
  simp only [List.take_succ_cons, List.take_zero, List.drop_succ_cons, List.drop_zero]
  repeat (go_big_quiet_step (fail))
  refine wpQuiet_nil ?_
  intro _ hw'
  obtain ⟨nq, hw''⟩ := hw'
  subst hw''
  have HV1 : Hid (RBv (w.drewN nq) rb l k kept A cap B cap2) := HV.out.below (below_drewN (Below.refl _ _) _)
  have hsrc := row_src HV1.out.r0 k l.length hk (Nat.le_refl _)
  rw [List.take_of_length_le (Nat.le_refl _)] at hsrc
  have hS1 : Row (w.drewN nq) (rb + 1) S capS xs := HS.out.kept fun _ _ _ _ _ => rfl
  obtain ⟨T, capT, w1, hrun, hrow, hg, hb⟩ := run_append_row (w.drewN nq) (rb + 1) S capS xs hS1 _ _ _ _ hsrc (by have := HV1.out.sz; omega) (by simp; omega)
  obtain ⟨t, ht⟩ : ∃ t, t = xs ++ l.drop k := ⟨_, rfl⟩
  have htl : t.length ≤ 200000 := by rw [ht]; simp; omega
  rw [← ht] at hrun hrow
  have HTT := Go.Lib.hid ht
  have hrowlt : ∀ g, blk S = some g → rb < g ∧ I32 (w.drewN nq) g := fun g hg' => ⟨(hS1.blk_lt hg').1, (hS1.blk_lt hg').2.2⟩
  have O1 : Hid (Own rb w w1) := ((Own.refl rb w).drewN nq).grown hg hrowlt
  have H1 : Hid (RBv w1 rb l k kept A cap B cap2) := HV1.out.apart hg fun g hg' => ⟨(hrowlt g hg').1, HAP.out g hg'⟩
  have HT := Go.Lib.hid hrow
  have HRUN := Go.Lib.hid hrun
  clear hsrc hrow hg hb hrowlt hS1 hrun ht
  have hrun := HRUN.out
  go_wp2_with (refine wpList_append_run (by rfl) _ _ _ (by rfl) _ _ _ (by rfl) (by rfl) hrun ?_)
  clear c0 c1 cN cM hrun
  have c0 := H1.out.c0
  have c1 := H1.out.c1
  have HN1 : Hid (Cap w1 rb N) := HN.out.own O1.out
  have HM1 : Hid (Var w1 rb M (.slice S xs.length capS)) := HM.out.own O1.out
  have cN := HN1.out.c
  have f0 := H1.out.f 0
  have sz1 := H1.out.sz
  have hV2 := H1.out.below (Below.refl _ _).drew
  obtain ⟨l', hl'⟩ : ∃ x, x = l.take k ++ t := ⟨_, rfl⟩
  have HL' := Go.Lib.hid hl'
  have hli : (l.take k).length = k := by simp; omega
  obtain ⟨A', cap3, w', hrun, hrow, hg, hb⟩ := run_append_row w1.drew (rb + 1) A cap (l.take k) (hV2.r0.take k hk) T t.length capT t ((HT.out.kept (w' := w1.drew) fun _ _ _ _ _ => rfl).src) (by have := hV2.sz; omega) (by simp; omega)
  rw [hli, ← hl'] at hrun
  rw [← hl'] at hrow
  obtain ⟨hR, hO, hcell, hfro, hO2⟩ := hV2.appended hg hrow hb
  have cN2 := ((HN1.out.own (Own.refl rb w1).drew).own hO2).c
  have q0 := (hcell 0).trans H1.out.c0
  have q1 := (hcell 1).trans H1.out.c1
  have g0 := (hfro 0).trans (H1.out.f 0)
  have HR := Go.Lib.hid hR
  have O2 : Hid (Own rb w (w'.setCell ⟨rb, 0, none⟩ (.slice A' l'.length cap3))) := O1.out.drew.trans hO
  clear hR hO hO2 hcell hfro hb hg hrow hV2 hl' hli
  refine region_held_tail 12 (S := (fun w' => w'.cell? ⟨N, 0, none⟩ = some (.pointer (some ⟨rb, 0, none⟩)) ∧ w'.cell? ⟨rb, 0, none⟩ = some (.slice A l.length cap) ∧ w'.cell? ⟨rb, 1, none⟩ = some (.int .i64 (k : Nat)))) (by kernel_rfl) (by kernel_rfl) ?_ (fun hHeld => ?_)
  · (try dsimp only); first | done | (first | exact ⟨cN, c0, c1⟩ | exact ⟨cN2, q0, q1⟩)
  refine HeldT.take (i := 0) (v := ?_) (by simp only [List.getElem?_toArray, List.getElem?_cons_succ, List.getElem?_cons_zero]; rfl) (by kernel_rfl) (by kernel_rfl) (by kernel_rfl) (by kernel_rfl) (by exact fun _ _ _ h => h) ?_ (by assumption) ?_
  rotate_left
  · refine Or.inl ⟨by rfl, ?_⟩
    (intro w hSw; (try dsimp only at hSw); go_simp; try with_reducible rfl)
  try simp only [Act.put, List.setIfInBounds_toArray, List.set_cons_zero, List.set_cons_succ]
  refine HeldT.take (i := 1) (v := ?_) (by simp only [List.getElem?_toArray, List.getElem?_cons_succ, List.getElem?_cons_zero]; rfl) (by kernel_rfl) (by kernel_rfl) (by kernel_rfl) (by kernel_rfl) (by exact fun _ _ _ h => h) ?_ (by assumption) ?_
  rotate_left
  · refine Or.inl ⟨by rfl, ?_⟩
    (intro w hSw; (try dsimp only at hSw); go_simp; try with_reducible rfl)
  try simp only [Act.put, List.setIfInBounds_toArray, List.set_cons_zero, List.set_cons_succ]
  refine HeldT.take (i := 2) (v := ?_) (by simp only [List.getElem?_toArray, List.getElem?_cons_succ, List.getElem?_cons_zero]; rfl) (by kernel_rfl) (by kernel_rfl) (by kernel_rfl) (by kernel_rfl) (by exact fun _ _ _ h => h) ?_ (by assumption) ?_
  rotate_left
  · refine Or.inl ⟨by rfl, ?_⟩
    (intro w hSw; (try dsimp only at hSw); go_simp; try with_reducible rfl)
  try simp only [Act.put, List.setIfInBounds_toArray, List.set_cons_zero, List.set_cons_succ]
  refine HeldT.take (i := 3) (v := ?_) (by simp only [List.getElem?_toArray, List.getElem?_cons_succ, List.getElem?_cons_zero]; rfl) (by kernel_rfl) (by kernel_rfl) (by kernel_rfl) (by kernel_rfl) (by exact fun _ _ _ h => h) ?_ (by assumption) ?_
  rotate_left
  · refine Or.inl ⟨by rfl, ?_⟩
    (intro w hSw; (try dsimp only at hSw); go_simp; try with_reducible rfl)
  try simp only [Act.put, List.setIfInBounds_toArray, List.set_cons_zero, List.set_cons_succ]
  refine HeldT.take (i := 4) (v := ?_) (by simp only [List.getElem?_toArray, List.getElem?_cons_succ, List.getElem?_cons_zero]; rfl) (by kernel_rfl) (by kernel_rfl) (by kernel_rfl) (by kernel_rfl) (by exact fun _ _ _ h => h) ?_ (by assumption) ?_
  rotate_left
  · refine Or.inl ⟨by rfl, ?_⟩
    (intro w hSw; (try dsimp only at hSw); go_simp; try with_reducible rfl)
  try simp only [Act.put, List.setIfInBounds_toArray, List.set_cons_zero, List.set_cons_succ]
  refine HeldT.take (i := 5) (v := ?_) (by simp only [List.getElem?_toArray, List.getElem?_cons_succ, List.getElem?_cons_zero]; rfl) (by kernel_rfl) (by kernel_rfl) (by kernel_rfl) (by kernel_rfl) (by exact fun _ _ _ h => h) ?_ (by assumption) ?_
  rotate_left
  · refine Or.inl ⟨by rfl, ?_⟩
    (intro w hSw; (try dsimp only at hSw); go_simp; try with_reducible rfl)
  try simp only [Act.put, List.setIfInBounds_toArray, List.set_cons_zero, List.set_cons_succ]
  refine HeldT.take (i := 6) (v := ?_) (by simp only [List.getElem?_toArray, List.getElem?_cons_succ, List.getElem?_cons_zero]; rfl) (by kernel_rfl) (by kernel_rfl) (by kernel_rfl) (by kernel_rfl) (by exact fun _ _ _ h => h) ?_ (by assumption) ?_
  rotate_left
  · refine Or.inl ⟨by rfl, ?_⟩
    (intro w hSw; (try dsimp only at hSw); go_simp; try with_reducible rfl)
  try simp only [Act.put, List.setIfInBounds_toArray, List.set_cons_zero, List.set_cons_succ]
  refine HeldT.take (i := 7) (v := ?_) (by simp only [List.getElem?_toArray, List.getElem?_cons_succ, List.getElem?_cons_zero]; rfl) (by kernel_rfl) (by kernel_rfl) (by kernel_rfl) (by kernel_rfl) (by exact fun _ _ _ h => h) ?_ (by assumption) ?_
  rotate_left
  · refine Or.inl ⟨by rfl, ?_⟩
    (intro w hSw; (try dsimp only at hSw); go_simp; try with_reducible rfl)
  try simp only [Act.put, List.setIfInBounds_toArray, List.set_cons_zero, List.set_cons_succ]
  refine HeldT.take (i := 8) (v := ?_) (by simp only [List.getElem?_toArray, List.getElem?_cons_succ, List.getElem?_cons_zero]; rfl) (by kernel_rfl) (by kernel_rfl) (by kernel_rfl) (by kernel_rfl) (by exact fun _ _ _ h => h) ?_ (by assumption) ?_
  rotate_left
  · refine Or.inl ⟨by rfl, ?_⟩
    (intro w hSw; (try dsimp only at hSw); go_simp; try with_reducible rfl)
  try simp only [Act.put, List.setIfInBounds_toArray, List.set_cons_zero, List.set_cons_succ]
  refine HeldT.take (i := 9) (v := ?_) (by simp only [List.getElem?_toArray, List.getElem?_cons_succ, List.getElem?_cons_zero]; rfl) (by kernel_rfl) (by kernel_rfl) (by kernel_rfl) (by kernel_rfl) (by exact fun _ _ _ h => h) ?_ (by assumption) ?_
  rotate_left
  · refine Or.inl ⟨by rfl, ?_⟩
    (intro w hSw; (try dsimp only at hSw); go_simp; try with_reducible rfl)
  try simp only [Act.put, List.setIfInBounds_toArray, List.set_cons_zero, List.set_cons_succ]
  refine HeldT.take (i := 10) (v := ?_) (by simp only [List.getElem?_toArray, List.getElem?_cons_succ, List.getElem?_cons_zero]; rfl) (by kernel_rfl) (by kernel_rfl) (by kernel_rfl) (by kernel_rfl) (by exact fun _ _ _ h => h) ?_ (by assumption) ?_
  rotate_left
  · refine Or.inl ⟨by rfl, ?_⟩
    (intro w hSw; (try dsimp only at hSw); go_simp; try with_reducible rfl)
  try simp only [Act.put, List.setIfInBounds_toArray, List.set_cons_zero, List.set_cons_succ]
  refine HeldT.one (i := 11) (by simp only [List.getElem?_toArray, List.getElem?_cons_succ, List.getElem?_cons_zero]; rfl) (by kernel_rfl) (by kernel_rfl) (fun K hK => ?_)
  (refine step_append_run (by rfl) _ _ _ (by rfl) _ _ _ (by rfl) (by rfl) hrun ?_)
  refine hK.out _ _ ?_ (fun hHeld => ?_)
  · (try dsimp only); first | done | (first | exact ⟨cN, c0, c1⟩ | exact ⟨cN2, q0, q1⟩)
  clear hK K
  try simp only [Act.put, List.setIfInBounds_toArray, List.set_cons_zero, List.set_cons_succ]
  refine HeldT.tail (by kernel_rfl) rfl ?_
  go_wp2_with fail
  have HN2 : Hid (Cap (w'.setCell ⟨rb, 0, none⟩ (.slice A' l'.length cap3)) rb N) := HN.out.own O2.out
  have HM2 : Hid (Var (w'.setCell ⟨rb, 0, none⟩ (.slice A' l'.length cap3)) rb M (.slice S xs.length capS)) := HM.out.own O2.out
  clear c0 c1 cN cN2 q0 q1 g0 hHeld f0 sz1
  generalize w'.setCell ⟨rb, 0, none⟩ (.slice A' l'.length cap3) = w2 at HR O2 HN2 HM2 ⊢
  have c1 := HR.out.c1
  have cN := HN2.out.c
  have cM := HM2.out.c
  have f1 := HR.out.f 1
  have sz2 := HR.out.sz
  refine region_quiet_tail 9 (by kernel_rfl) (by kernel_rfl) ?_
  simp only [List.take_succ_cons, List.take_zero, List.drop_succ_cons, List.drop_zero]
  repeat (go_big_quiet_step (fail))
  refine wpQuiet_nil ?_
  intro _ hw'
  obtain ⟨nq, hw''⟩ := hw'
  subst hw''
  go_wp2_with fail
  go_returns
  have hfin := (HR.out.below (below_drewN (Below.refl w2.heap.size w2) nq)).idx (k + xs.length)
  rw [HL'.out, HTT.out] at hfin
  rw [Int.natCast_add] at hfin
  exact ⟨rfl, ⟨_, _, _, _, hfin⟩, (O2.out.drewN _).set _ _⟩
end Go.Proofs.YtoimdbmjpkmkfaaDoor

/- Copy, Runes, Reset, Pos; the closure of Yank, of SetWithIdx. -/
namespace Go.Proofs.YtoimdbmjpkmkfaaDoor
open Go.RowKit
set_option linter.unusedVariables false
set_option linter.unusedSimpArgs false

def CopyPost (l : List Int) (w : World) (e : Ending) (w' : World) : Prop :=
  ∃ G, e = .returned (.slice (some ⟨G, 0, none⟩) l.length l.length) ∧ w.heap.size ≤ G ∧ G < w'.heap.size ∧ (∀ (j : Nat) (v : Int), l[j]? = some v → w'.cell? ⟨G, j, none⟩ = some (.int .i32 v)) ∧ Below w.heap.size w w'

theorem splice_at {G : Nat} {w : World} {cur cs : List Value} {t : TypeId} (h : w.heap[G]? = some (.cells (splice cur 0 cs).toArray t (0, 0))) (j : Nat) (v : Value) (hj : cs[j]? = some v) : w.cell? ⟨G, j, none⟩ = some v := by
  have hjl : j < cs.length := (List.getElem?_eq_some_iff.1 hj).1
  rw [World.cell?, h]
  simp [splice]
  rw [List.getElem?_append_left (by omega)]
  exact hj

set_option maxRecDepth 100000 in
set_option maxHeartbeats 2000000 in
theorem copy_any (A : Option Addr) (m c : Nat) (l : List Int) (w : World) (hs : Src w A m c l) (hl : l.length ≤ 100000) :
    Calls Tryd.prog 62 #[.agg #[], .slice A m c] w (CopyPost l w) := by
  obtain ⟨rfl, hs⟩ := hs
  have HS := Go.Lib.hid hs
  clear hs
  obtain ⟨n, hn⟩ : ∃ n, n = l.length := ⟨_, rfl⟩
  have Hn := Go.Lib.hid hn
  rw [← hn] at hl ⊢
  clear hn
  obtain ⟨ib, hib, hz0, hz1, hz2⟩ := info_parts (show (Tryd.prog.info? 21).map (fun i => (i.zero, i.size, i.bytes)) = some (some (.int .i32 0), 1, 4) by kernel_rfl)
  go_enter Tryd.func62, Tryd.ntmps62
  go_wp2_with (at_make; refine wpList_make_full _ rfl _ _ 38 rfl (w.heap.size + 1) 21 ib (.int .i32 0) 1 Tryd.underlying38 hib hz0 hz1 .i64 .i64 (n : Int) (n : Int) n rfl rfl rfl rfl ?c2 ?c3 ?c4 ?_)
  case c2 => rw [hz2]; omega
  case c3 => unfold maxLen; omega
  case c4 => simp
  intro w1 hown hgrow
  have hb1 : Below w.heap.size w w1 := ((Below.refl _ w).alloc (Nat.le_refl _) _).grown hgrow (by simp) (fun k hk => by cases hk)
  obtain ⟨_, ho⟩ := hown
  rcases ho with ⟨ho, _⟩ | ⟨g1, cap1, cur, hv, hg1, hh, hn1', hcm, hcs, htk⟩
  · cases ho
  obtain ⟨rfl, rfl⟩ : g1 = w.heap.size + 1 ∧ n = cap1 := by cases hv; simp
  have HH := Go.Lib.hid hh
  have HCS := Go.Lib.hid hcs
  clear hv htk hh hcs hgrow
  go_wp2_with (with_reducible refine wpList_copy_splice rfl _ _ 38 38 rfl 21 Tryd.underlying38 ?k0 (some ⟨w.heap.size + 1, 0, none⟩) A n n n c rfl rfl (w.heap.size + 1) 0 cur.toList 21 ?k1 (i32s l) ?k2 ?k3 ?k4 ?k5 (w.heap.size + 1) _ (Below.refl _ _) (Nat.le_refl _) ?_)
  case k0 => kernel_rfl
  case k1 => simpa using HH.out
  case k2 => rw [i32s, List.length_map, ← Hn.out]; exact (Nat.min_self _).symm
  case k3 =>
    intro h0
    rcases HS.out with ⟨_, h1, _⟩ | ⟨ad, hA, hc⟩
    · rw [h1] at h0; simp [i32s] at h0
    · exact ⟨ad, hA, fun j v hj => by
        have := hc j v hj
        exact (hb1.cell (World.block_lt_of_cell? w _ this)).trans this⟩
  case k4 => have := HCS.out; have := Hn.out; simp [i32s]; omega
  case k5 => exact i32s_one l
  intro w2 hw2 hb2
  have hB : w.heap.size + 1 < w2.heap.size := (Array.getElem?_eq_some_iff.1 hw2.out).1
  go_wp2_with fail
  go_returns
  refine ⟨w.heap.size + 1, by rw [← Hn.out]; rfl, by omega, hB, fun j v hj => splice_at hw2.out j _ ?_, hb1.trans (hb2.mono (by omega))⟩
  rw [i32s, List.getElem?_map, hj]; rfl

set_option maxRecDepth 100000 in
set_option maxHeartbeats 2000000 in
theorem runes_of {w : World} {rb : Nat} {l : List Int} {k : Nat} {kept : List Int} {A : Option Addr} {cap : Nat} {B : Option Addr} {cap2 : Nat} (h : RBv w rb l k kept A cap B cap2) (hl : l.length ≤ 100000) :
    Calls Tryd.prog 24 #[.pointer (some ⟨rb, 0, none⟩)] w (CopyPost l w) := by
  have H := Go.Lib.hid h
  obtain ⟨n, hn⟩ : ∃ n, n = l.length := ⟨_, rfl⟩
  have Hn := Go.Lib.hid hn
  have c0 := h.c0
  have sz := h.sz
  rw [← hn] at hl c0
  clear hn h
  obtain ⟨ib, hib, hz0, hz1, hz2⟩ := info_parts (show (Tryd.prog.info? 21).map (fun i => (i.zero, i.size, i.bytes)) = some (some (.int .i32 0), 1, 4) by kernel_rfl)
  go_enter Tryd.func24, Tryd.ntmps24
  go_wp2_with (at_make; refine wpList_make_full _ rfl _ _ 38 rfl w.heap.size 21 ib (.int .i32 0) 1 Tryd.underlying38 hib hz0 hz1 .i64 .i64 (n : Int) (n : Int) n rfl rfl rfl rfl ?c2 ?c3 ?c4 ?_)
  case c2 => rw [hz2]; omega
  case c3 => unfold maxLen; omega
  case c4 => exact Nat.le_refl _
  intro w1 hown hgrow
  have hb1 : Below w.heap.size w w1 := (Below.refl _ w).grown hgrow (Nat.le_refl _) (fun k hk => by cases hk)
  obtain ⟨_, ho⟩ := hown
  rcases ho with ⟨ho, _⟩ | ⟨g1, cap1, cur, hv, hg1, hh, hn1', hcm, hcs, htk⟩
  · cases ho
  obtain ⟨rfl, rfl⟩ : g1 = w.heap.size ∧ n = cap1 := by cases hv; simp
  have HH := Go.Lib.hid hh
  have HCS := Go.Lib.hid hcs
  have c0' := (hb1.cell (p := ⟨rb, 0, none⟩) sz).trans c0
  have HSRC := Go.Lib.hid (H.out.r0.src.below hb1)
  clear hv htk hh hcs hgrow c0
  go_wp2_with (with_reducible refine wpList_copy_splice rfl _ _ 38 38 rfl 21 Tryd.underlying38 ?k0 (some ⟨w.heap.size, 0, none⟩) A n n n cap rfl rfl w.heap.size 0 cur.toList 21 ?k1 (i32s l) ?k2 ?k3 ?k4 ?k5 w.heap.size _ (Below.refl _ _) (Nat.le_refl _) ?_)
  case k0 => kernel_rfl
  case k1 => simpa using HH.out
  case k2 => rw [i32s, List.length_map, ← Hn.out]; exact (Nat.min_self _).symm
  case k3 =>
    intro h0
    rcases HSRC.out.2 with ⟨_, h1, _⟩ | ⟨ad, hA, hc⟩
    · rw [h1] at h0; simp [i32s] at h0
    · exact ⟨ad, hA, hc⟩
  case k4 => have := HCS.out; have := Hn.out; simp [i32s]; omega
  case k5 => exact i32s_one l
  intro w2 hw2 hb2
  have hB : w.heap.size < w2.heap.size := (Array.getElem?_eq_some_iff.1 hw2.out).1
  go_wp2_with fail
  go_returns
  refine ⟨w.heap.size, by rw [← Hn.out]; rfl, Nat.le_refl _, hB, fun j v hj => splice_at hw2.out j _ ?_, hb1.trans hb2⟩
  rw [i32s, List.getElem?_map, hj]; rfl

theorem pos_of {w : World} {rb : Nat} {l : List Int} {k : Nat} {kept : List Int} (h : RB w rb l k kept) :
    Calls Tryd.prog 25 #[.pointer (some ⟨rb, 0, none⟩)] w fun e w' => e = .returned (.int .i64 (k : Nat)) ∧ w = w' := by
  obtain ⟨A, cap, B, cap2, h⟩ := h
  have c1 := h.c1
  clear h
  go_enter Tryd.func25, Tryd.ntmps25
  go_wp2_with fail
  go_returns
  exact ⟨rfl, rfl⟩

/-- Reset, as a step. -/
theorem reset_any (rb : Nat) (l : List Int) (k : Nat) (kept : List Int) (w : World) (h : RB w rb l k kept) (hl : l.length ≤ 100000) :
    Calls Tryd.prog 45 #[.pointer (some ⟨rb, 0, none⟩)] w fun e w' => ∃ v, e = .returned v ∧ (RB w' rb [] 0 kept ∧ Own rb w w') := by
  obtain ⟨A, cap, B, cap2, hv⟩ := h
  have HV := Go.Lib.hid hv
  have hs1 := up_run A l.length cap 0 (Nat.zero_le _)
  have hs2 : ∀ w, (Instr.slice 38 (.slice A l.length cap) none (some (.int .i64 0)) none).run Tryd.prog w = .ok (.slice A 0 cap) w := hs1
  have hld : ∀ (W : World) (a : Addr), (loadVar 66 a).run Tryd.prog W = .ok (.agg #[]) W := fun W a => by kernel_rfl
  have c0 := hv.c0
  have sz := hv.sz
  clear hv hs1
  go_enter Tryd.func45, Tryd.ntmps45
  go_wp2_with fail
  refine region_quiet_tail 5 (by kernel_rfl) (by kernel_rfl) ?_
  simp only [List.take_succ_cons, List.take_zero, List.drop_succ_cons, List.drop_zero]
  repeat (go_big_quiet_step (fail))
  refine wpQuiet_nil ?_
  intro _ hw'
  obtain ⟨nq, hw''⟩ := hw'
  subst hw''
  have H1 : Hid (RBv (w.drewN nq) rb l k kept A cap B cap2) := HV.out.below (below_drewN (Below.refl _ _) _)
  go_wp2_with fail
  refine (copy_any A l.length cap l _ H1.out.r0.src hl).mono ?_
  rintro e w1 hP
  obtain ⟨G, rfl, -, -, -, b1⟩ := hP
  have H2 : Hid (RBv w1 rb l k kept A cap B cap2) := H1.out.below b1
  have O1 : Hid (Own rb w w1) := ((Own.refl rb w).drewN nq).after b1
  clear b1 c0
  have c0 := H2.out.c0
  have c1 := H2.out.c1
  have f0 := H2.out.f 0
  have f1 := H2.out.f 1
  have sz1 := H2.out.sz
  go_wp2_with fail
  go_returns
  have hv2 := (H2.out.buf (H2.out.r0.take 0 (Nat.zero_le _)) H2.out.ap).idx 0
  exact ⟨_, rfl, ⟨_, _, _, _, hv2⟩, (O1.out.set _ _).set _ _⟩
end Go.Proofs.YtoimdbmjpkmkfaaDoor
