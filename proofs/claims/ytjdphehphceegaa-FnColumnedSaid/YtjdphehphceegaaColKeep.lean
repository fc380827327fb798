/- A text without line feeds and returns, byte by byte; blanks one by one. -/
import Derived.Test.YtjdphehphceegaaColFmtB
namespace Go.Proofs.Ytjdphehphceegaa
open Go.RowKit
set_option linter.unusedVariables false
set_option linter.unusedSimpArgs false

theorem clean_list (s : ByteArray) : (clean s).data.toList = (s.data.toList.filter fun b => b != 10).filter fun b => b != 13 := rfl
theorem bytes_ext {a b : ByteArray} (h : a.data.toList = b.data.toList) : a = b := by
  cases a with | mk a => cases b with | mk b => simpa using h
def keep (s : ByteArray) (k : Nat) : ByteArray := clean (s.extract 0 k)
theorem keep_zero (s : ByteArray) : keep s 0 = ⟨#[]⟩ := bytes_ext (by rw [keep, clean_list, extract_list]; simp)
theorem keep_all (s : ByteArray) : keep s s.size = clean s := by rw [keep, extract_all]
theorem keep_len (s : ByteArray) (k : Nat) (h : k ≤ s.size) : (keep s k).size ≤ k := by
  have h1 := dropB_len 13 (dropB 10 (s.extract 0 k))
  have h2 := dropB_len 10 (s.extract 0 k)
  have h3 := size_sub s 0 k h
  unfold keep clean
  omega
theorem take_next (s : ByteArray) (j : Nat) (h : j < s.size) : s.data.toList.take (j + 1) = s.data.toList.take j ++ [s[j]] := by
  have h' : j < s.data.toList.length := by simpa using h
  rw [List.take_succ_eq_append_getElem h']
  rfl
theorem keep_skip (s : ByteArray) (j : Nat) (h : j < s.size) (e : s[j].toNat = 10 ∨ s[j].toNat = 13) : keep s (j + 1) = keep s j := bytes_ext (by
  rw [keep, keep, clean_list, clean_list, extract_list, extract_list]
  simp only [List.drop_zero, Nat.sub_zero]
  rw [take_next s j h]
  rcases e with e | e
  · have : s[j] = 10 := UInt8.toNat_inj.mp e
    simp [this]
  · have : s[j] = 13 := UInt8.toNat_inj.mp e
    simp [this])
theorem keep_next (s : ByteArray) (j : Nat) (h : j < s.size) (e1 : s[j].toNat ≠ 10) (e2 : s[j].toNat ≠ 13) : keep s (j + 1) = keep s j ++ s.extract j (j + 1) := bytes_ext (by
  have h1 : s[j] ≠ 10 := fun e => e1 (by rw [e]; rfl)
  have h2 : s[j] ≠ 13 := fun e => e2 (by rw [e]; rfl)
  have hx : (s.extract j (j + 1)).data.toList = [s[j]] := by
    rw [extract_list, show j + 1 - j = 1 by omega]
    have h' : j < s.data.toList.length := by simpa using h
    rw [List.drop_eq_getElem_cons h']
    rfl
  rw [ByteArray.data_append, Array.toList_append, hx, keep, keep, clean_list, clean_list, extract_list, extract_list]
  simp only [List.drop_zero, Nat.sub_zero]
  rw [take_next s j h]
  simp [h1, h2])
theorem blanksC_zero : blanksC 0 = ⟨#[]⟩ := rfl
theorem repeatL_next (c : Nat) : Lib.repeatL [(32 : UInt8)] (c + 1) = Lib.repeatL [32] c ++ [32] := by
  induction c with
  | zero => rfl
  | succ c ih =>
    show [32] ++ Lib.repeatL [(32 : UInt8)] (c + 1) = ([32] ++ Lib.repeatL [32] c) ++ [32]
    rw [ih]; simp
theorem blanksC_next (c : Nat) : blanksC (c + 1) = blanksC c ++ ⟨#[32]⟩ := bytes_ext (by
  rw [ByteArray.data_append, Array.toList_append]
  show (Lib.repeatL [(32 : UInt8)] (c + 1)).toArray.toList = (Lib.repeatL [32] c).toArray.toList ++ [32]
  rw [repeatL_next])
end Go.Proofs.Ytjdphehphceegaa
