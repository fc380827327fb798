/- Texts of ASCII: the text of some of their code points. No program in sight. -/
import Derived.Test.YtbibokkclejapaaDoorAscii
namespace Go.Proofs.YtbibokkclejapaaDoor
open Go.RowKit
set_option linter.unusedVariables false
set_option linter.unusedSimpArgs false

theorem enc_ascii : ∀ l : List UInt8, (∀ b ∈ l, b.toNat < 128) → enc (l.map fun b => (b.toNat : Int)) = l
  | [], _ => rfl
  | b :: t, h => by
    have hb := h b (by simp)
    have e : Lib.encodeRune (b.toNat : Int) = [b] := by
      unfold Lib.encodeRune
      rw [Lib.encodeRuneZ_one (by omega) (by omega)]
      simp
    rw [List.map_cons, enc_cons, enc_ascii t fun c hc => h c (by simp [hc]), e]
    rfl

theorem ba_ext {a b : ByteArray} (h : a.data.toList = b.data.toList) : a = b := by
  cases a; cases b; simp at h; rw [h]

theorem extract_list (s : ByteArray) (i j : Nat) : (s.extract i j).data.toList = (s.data.toList.drop i).take (j - i) := by
  simp [ByteArray.data_extract]

/-- The code points of a piece of a text of ASCII, written out. -/
theorem runesBytes_sub (s : ByteArray) (h : IsAscii s) (i j : Nat) : runesBytes (((runes s).drop i).take (j - i)) = s.extract i j := by
  apply ba_ext
  rw [runesBytes_list, runes_ascii s h, extract_list, ← List.map_drop, ← List.map_take, enc_ascii]
  intro b hb
  exact h b (List.mem_of_mem_drop (List.mem_of_mem_take hb))

theorem IsAscii.extract {s : ByteArray} (h : IsAscii s) (i j : Nat) : IsAscii (s.extract i j) := fun b hb => by
  rw [extract_list] at hb
  exact h b (List.mem_of_mem_drop (List.mem_of_mem_take hb))

theorem IsAscii.append {s t : ByteArray} (h : IsAscii s) (k : IsAscii t) : IsAscii (s ++ t) := fun b hb => by
  rw [ByteArray.toList_data_append] at hb
  rcases List.mem_append.1 hb with hb | hb
  · exact h b hb
  · exact k b hb

theorem IsAscii.at {s : ByteArray} (h : IsAscii s) (i : Nat) (hi : i < s.size) : (s[i]'hi).toNat < 128 := h _ (by
  have : s[i]'hi = s.data.toList[i]'(by simpa using hi) := by simp; rfl
  rw [this]; exact List.getElem_mem _)

theorem extract_all (s : ByteArray) : s.extract 0 s.size = s := by
  have : s.data.toList.length = s.size := by simp
  apply ba_ext; rw [extract_list, List.drop_zero, Nat.sub_zero, ← this, List.take_length]

theorem extract_cat (s : ByteArray) (i : Nat) (h : i ≤ s.size) : s.extract 0 i ++ s.extract i s.size = s := by
  apply ba_ext
  have : s.data.toList.length = s.size := by simp
  rw [ByteArray.toList_data_append, extract_list, extract_list, List.drop_zero, Nat.sub_zero, List.take_of_length_le (l := List.drop i s.data.toList) (by rw [List.length_drop, this]; exact Nat.le_refl _), List.take_append_drop]

theorem size_sub (s : ByteArray) (i j : Nat) (h : j ≤ s.size) : (s.extract i j).size = j - i := by
  rw [ByteArray.size_extract]; omega
end Go.Proofs.YtbibokkclejapaaDoor
