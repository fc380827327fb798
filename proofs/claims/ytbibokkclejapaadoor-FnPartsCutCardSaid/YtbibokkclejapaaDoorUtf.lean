/- Plain facts on UTF-8: what is encoded is decoded again, and what is decoded without a fault is encoded to the same bytes. -/
import Derived.Test.YtbibokkclejapaaDoorTexts
import Derived.Lib.TrimUEq
import Derived.Lib.MapLaws
import Derived.Laws.Cover4
namespace Go.Proofs.YtbibokkclejapaaDoor
open Go.RowKit
set_option linter.unusedVariables false
set_option linter.unusedSimpArgs false

/-- A number is a code point that can be written. -/
def Scalar (r : Int) : Prop := (0 ≤ r ∧ r < 55296) ∨ (57343 < r ∧ r ≤ 1114111)

theorem decode_scalar (l : List UInt8) : Scalar ((Lib.decodeL l).1 : Int) := by
  rw [Lib.decodeL_N]
  unfold Lib.decodeN Scalar
  repeat' (first | omega | split)

theorem byte_toNat (z : Int) (h0 : 0 ≤ z) (h1 : z < 256) : ((z.toNat.toUInt8).toNat : Int) = z := by simp [Nat.toUInt8]; omega

theorem decode_encode (r : Int) (hr : Scalar r) (t : List UInt8) : Lib.decodeL (Lib.encodeRune r ++ t) = (r.toNat, (Lib.encodeRune r).length) := by
  obtain ⟨n, rfl⟩ := Int.eq_ofNat_of_zero_le (show 0 ≤ r by unfold Scalar at hr; omega)
  unfold Scalar at hr
  unfold Lib.encodeRune
  rw [Lib.decodeL_N]
  by_cases h1 : (n : Int) ≤ 127
  · rw [Lib.encodeRuneZ_one (by omega) h1]
    simp [Lib.decodeN, Nat.toUInt8]
    rw [if_pos (by omega)]
    simp; omega
  by_cases h2 : (n : Int) ≤ 2047
  · rw [Lib.encodeRuneZ_two (by omega) h2]
    have e0 := byte_toNat (192 + (n : Int) / 64) (by omega) (by omega)
    have e1 := byte_toNat (128 + (n : Int) % 64) (by omega) (by omega)
    simp only [List.map_cons, List.map_nil, List.cons_append, List.nil_append, List.length_cons, List.getD_cons_zero, List.getD_cons_succ, List.length_nil]
    generalize (192 + (n : Int) / 64).toNat.toUInt8 = b0 at e0 ⊢
    generalize (128 + (n : Int) % 64).toNat.toUInt8 = b1 at e1 ⊢
    unfold Lib.decodeN
    rw [if_neg (by omega), if_pos (by omega), if_pos (by omega)]
    simp; omega
  by_cases h3 : (n : Int) ≤ 65535
  · rw [Lib.encodeRuneZ_three (by omega)]
    have e0 := byte_toNat (224 + (n : Int) / 4096) (by omega) (by omega)
    have e1 := byte_toNat (128 + (n : Int) / 64 % 64) (by omega) (by omega)
    have e2 := byte_toNat (128 + (n : Int) % 64) (by omega) (by omega)
    simp only [List.map_cons, List.map_nil, List.cons_append, List.nil_append, List.length_cons, List.getD_cons_zero, List.getD_cons_succ, List.length_nil]
    generalize (224 + (n : Int) / 4096).toNat.toUInt8 = b0 at e0 ⊢
    generalize (128 + (n : Int) / 64 % 64).toNat.toUInt8 = b1 at e1 ⊢
    generalize (128 + (n : Int) % 64).toNat.toUInt8 = b2 at e2 ⊢
    unfold Lib.decodeN
    rw [if_neg (by omega), if_neg (by omega), if_pos (by omega), if_pos (by omega)]
    simp; omega
  · rw [Lib.encodeRuneZ_four (by omega) (by omega)]
    have e0 := byte_toNat (240 + (n : Int) / 262144) (by omega) (by omega)
    have e1 := byte_toNat (128 + (n : Int) / 4096 % 64) (by omega) (by omega)
    have e2 := byte_toNat (128 + (n : Int) / 64 % 64) (by omega) (by omega)
    have e3 := byte_toNat (128 + (n : Int) % 64) (by omega) (by omega)
    simp only [List.map_cons, List.map_nil, List.cons_append, List.nil_append, List.length_cons, List.getD_cons_zero, List.getD_cons_succ, List.length_nil]
    generalize (240 + (n : Int) / 262144).toNat.toUInt8 = b0 at e0 ⊢
    generalize (128 + (n : Int) / 4096 % 64).toNat.toUInt8 = b1 at e1 ⊢
    generalize (128 + (n : Int) / 64 % 64).toNat.toUInt8 = b2 at e2 ⊢
    generalize (128 + (n : Int) % 64).toNat.toUInt8 = b3 at e3 ⊢
    unfold Lib.decodeN
    rw [if_neg (by omega), if_neg (by omega), if_neg (by omega), if_pos (by omega), if_pos (by omega)]
    simp; omega

/-- The code points of a list of bytes, at most n of them. -/
def runesN : Nat → List UInt8 → List Int
  | 0, _ => []
  | n + 1, l => if l = [] then [] else ((Lib.decodeL l).1 : Int) :: runesN n (l.drop (Lib.decodeL l).2)
def runesL (l : List UInt8) : List Int := runesN l.length l

theorem decodeL_pos (l : List UInt8) : 1 ≤ (Lib.decodeL l).2 := by
  rw [Lib.decodeL_N]
  unfold Lib.decodeN
  repeat' (first | omega | split)

theorem runesN_nil (n : Nat) : runesN n [] = [] := by cases n <;> simp [runesN]

theorem runesN_fuel : ∀ (m n : Nat) (l : List UInt8), l.length ≤ m → l.length ≤ n → runesN m l = runesN n l
  | 0, n, l, hm, _ => by
    obtain rfl : l = [] := List.eq_nil_of_length_eq_zero (by omega)
    rw [runesN_nil, runesN_nil]
  | m + 1, n, l, hm, hn => by
    by_cases e : l = []
    · subst e; rw [runesN_nil, runesN_nil]
    · have hl : 0 < l.length := List.length_pos_iff.2 e
      obtain ⟨n, rfl⟩ : ∃ j, n = j + 1 := ⟨n - 1, by omega⟩
      have hp := decodeL_pos l
      simp only [runesN, if_neg e]
      rw [runesN_fuel m n _ (by simp; omega) (by simp; omega)]

theorem runesL_cons (l : List UInt8) (h : l ≠ []) : runesL l = ((Lib.decodeL l).1 : Int) :: runesL (l.drop (Lib.decodeL l).2) := by
  have hl : 0 < l.length := List.length_pos_iff.2 h
  have hp := decodeL_pos l
  unfold runesL
  obtain ⟨n, hn⟩ : ∃ n, l.length = n + 1 := ⟨l.length - 1, by omega⟩
  rw [hn]
  simp only [runesN, if_neg h]
  rw [runesN_fuel n (l.drop (Lib.decodeL l).2).length _ (by simp; omega) (Nat.le_refl _)]

theorem runesL_nil : runesL [] = [] := rfl

/-- Code points as bytes. -/
def enc (zs : List Int) : List UInt8 := zs.flatMap Lib.encodeRune
theorem enc_nil : enc [] = [] := rfl
theorem enc_cons (z : Int) (zs : List Int) : enc (z :: zs) = Lib.encodeRune z ++ enc zs := rfl
theorem enc_append (a b : List Int) : enc (a ++ b) = enc a ++ enc b := by simp [enc]

theorem encodeRune_ne (r : Int) : Lib.encodeRune r ≠ [] := by
  have := (Lib.encodeRuneZ_length r).1
  intro e
  have : (Lib.encodeRune r).length = 0 := by rw [e]; rfl
  simp [Lib.encodeRune] at this
  simp [this] at *

theorem runesL_enc : ∀ (zs : List Int) (t : List UInt8), (∀ z ∈ zs, Scalar z) → runesL (enc zs ++ t) = zs ++ runesL t
  | [], t, _ => rfl
  | z :: zs, t, h => by
    rw [enc_cons, List.append_assoc]
    have hz := h z (by simp)
    rw [runesL_cons _ (by simp [encodeRune_ne]), decode_encode z hz]
    have h0 : 0 ≤ z := by unfold Scalar at hz; omega
    rw [List.drop_left, runesL_enc zs t fun x hx => h x (by simp [hx])]
    simp [Int.toNat_of_nonneg h0]

theorem runesL_of_enc (zs : List Int) (h : ∀ z ∈ zs, Scalar z) : runesL (enc zs) = zs := by
  have := runesL_enc zs [] h
  simpa [runesL_nil] using this

theorem runesL_scalar (l : List UInt8) : ∀ z ∈ runesL l, Scalar z := by
  suffices h : ∀ n l, ∀ z ∈ runesN n l, Scalar z from h _ l
  intro n
  induction n with
  | zero => intro l z hz; simp [runesN] at hz
  | succ n ih =>
    intro l z hz
    simp only [runesN] at hz
    split at hz
    · simp at hz
    · rcases List.mem_cons.1 hz with rfl | hz
      · exact decode_scalar l
      · exact ih _ z hz

theorem runesAt_N (s : ByteArray) : ∀ n i, runesAt s n i = runesN n (s.data.toList.drop i)
  | 0, i => rfl
  | n + 1, i => by
    simp only [runesAt, runesN]
    have e : s.data.toList.length = s.size := by simp
    by_cases h : i < s.size
    · rw [if_pos h, if_neg (by intro e'; have := congrArg List.length e'; simp at this; omega), Lib.decodeL_drop, runesAt_N s n, List.drop_drop]
    · rw [if_neg h, if_pos (List.drop_eq_nil_of_le (by omega))]

theorem runes_L (s : ByteArray) : runes s = runesL s.data.toList := by
  unfold runes runesL
  rw [runesAt_N]
  simp

theorem runes_scalar (s : ByteArray) : ∀ z ∈ runes s, Scalar z := by rw [runes_L]; exact runesL_scalar _

/-- A text that is UTF-8 is made of its code points. -/
theorem enc_runes (s : ByteArray) (hv : Valid s) : enc (runes s) = s.data.toList := by
  have hlen : s.data.toList.length = s.size := by simp
  suffices h : ∀ n k, s.size ≤ posAt s k + n → enc (runesN n (s.data.toList.drop (posAt s k))) = s.data.toList.drop (posAt s k) by
    have := h s.size 0 (by omega)
    rw [runes_L]
    unfold runesL
    rw [hlen]
    simpa [posAt] using this
  intro n
  induction n with
  | zero =>
    intro k hk
    rw [List.drop_eq_nil_of_le (by omega)]; rfl
  | succ n ih =>
    intro k hk
    by_cases hp : posAt s k < s.size
    · have hne : s.data.toList.drop (posAt s k) ≠ [] := by intro e; have := congrArg List.length e; simp at this; omega
      simp only [runesN, if_neg hne, enc_cons]
      have hd := Lib.decodeL_drop s (posAt s k)
      have hw := width_pos s (posAt s k) hp
      rw [Lib.encode_decode _ hne, hd, List.drop_drop]
      · have := ih (k + 1) (by show _ ≤ posAt s k + (Utf8.decode s (posAt s k)).2 + n; omega)
        simp only [posAt] at this
        rw [this, ← List.drop_drop, List.take_append_drop]
      · rw [hd]
        rintro ⟨e1, e2⟩
        have hg := hv k hp e1
        have hl : (s.data.toList.drop (posAt s k)).take 3 = [239, 191, 189] := by
          have h3 : (s.extract (posAt s k) (posAt s k + 3)).toList = (s.data.toList.drop (posAt s k)).take 3 := by
            rw [ByteArray.toList_eq]
            simp
          rw [← h3]; exact hg
        have hdd : Lib.decodeL (s.data.toList.drop (posAt s k)) = (65533, 3) := by
          rw [← List.take_append_drop 3 (s.data.toList.drop (posAt s k)), hl]
          exact decode_encode 65533 (by unfold Scalar; omega) _
        rw [hd] at hdd
        rw [hdd] at e2
        exact absurd e2 (by decide)
    · rw [List.drop_eq_nil_of_le (by omega), runesN_nil]; rfl

theorem u8_eq (a b : Nat) (h : a = b) : UInt8.ofNat a = b.toUInt8 := by subst h; rfl

theorem two_eq {a b : UInt8} {l m : List UInt8} (h : a = b) (k : l = m) : a :: l = b :: m := by rw [h, k]

theorem encode_list (r : Int) : (Utf8.encode r).data.toList = Lib.encodeRune r := by
  unfold Lib.encodeRune
  by_cases hv : Utf8.valid r = true
  · have hs : Scalar r := by
      rw [validRune_eq] at hv
      simpa [validRune, Scalar] using hv
    unfold Scalar at hs
    obtain ⟨n, rfl⟩ := Int.eq_ofNat_of_zero_le (show 0 ≤ r by omega)
    unfold Utf8.encode
    simp only [hv, if_true, Int.toNat_natCast]
    by_cases h1 : n < 128
    · rw [if_pos h1, Lib.encodeRuneZ_one (by omega) (by omega)]
      exact congrArg (· :: []) (u8_eq _ _ (by omega))
    by_cases h2 : n < 2048
    · rw [if_neg h1, if_pos h2, Lib.encodeRuneZ_two (by omega) (by omega)]
      exact two_eq (u8_eq _ _ (by omega)) (two_eq (u8_eq _ _ (by omega)) rfl)
    by_cases h3 : n < 65536
    · rw [if_neg h1, if_neg h2, if_pos h3, Lib.encodeRuneZ_three (by omega)]
      exact two_eq (u8_eq _ _ (by omega)) (two_eq (u8_eq _ _ (by omega)) (two_eq (u8_eq _ _ (by omega)) rfl))
    · rw [if_neg h1, if_neg h2, if_neg h3, Lib.encodeRuneZ_four (by omega) (by omega)]
      exact two_eq (u8_eq _ _ (by omega)) (two_eq (u8_eq _ _ (by omega)) (two_eq (u8_eq _ _ (by omega)) (two_eq (u8_eq _ _ (by omega)) rfl)))
  · have hn : ¬ Scalar r := by
      rw [validRune_eq] at hv
      simpa [validRune, Scalar] using hv
    unfold Scalar at hn
    rw [Lib.encodeRuneZ_bad (by omega)]
    have hv' : Utf8.valid r = false := by simpa using hv
    have he : Utf8.encode r = Utf8.encode 65533 := by unfold Utf8.encode; simp only [hv']; rfl
    rw [he]; decide +kernel

theorem runesBytes_list (zs : List Int) : (runesBytes zs).data.toList = enc zs := by
  suffices h : ∀ (zs : List Int) (a : ByteArray), (zs.foldl (fun r n => r ++ Utf8.encode n) a).data.toList = a.data.toList ++ enc zs by
    have := h zs ByteArray.empty
    simpa [runesBytes] using this
  intro zs
  induction zs with
  | nil => intro a; simp [enc]
  | cons z zs ih =>
    intro a
    rw [List.foldl_cons, ih, enc_cons, ← encode_list z]
    simp

/-- What is written of code points is read again. -/
theorem runes_bytes (zs : List Int) (h : ∀ z ∈ zs, Scalar z) : runes (runesBytes zs) = zs := by
  rw [runes_L, runesBytes_list, runesL_of_enc zs h]
end Go.Proofs.YtbibokkclejapaaDoor
