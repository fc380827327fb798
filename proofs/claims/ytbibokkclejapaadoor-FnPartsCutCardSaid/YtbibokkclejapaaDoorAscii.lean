/- Texts of ASCII and their code points; no program in sight. -/
import Derived.Test.YtbibokkclejapaaDoorUtf
import Derived.Lib.TrimAscii
namespace Go.Proofs.YtbibokkclejapaaDoor
open Go.RowKit
set_option linter.unusedVariables false
set_option linter.unusedSimpArgs false

/-- A text of ASCII. -/
def IsAscii (s : ByteArray) : Prop := ∀ b ∈ s.data.toList, b.toNat < 128

theorem runesL_ascii : ∀ l : List UInt8, (∀ b ∈ l, b.toNat < 128) → runesL l = l.map fun b => (b.toNat : Int)
  | [], _ => rfl
  | b :: t, h => by
    rw [runesL_cons _ (by simp), Lib.decodeL_ascii b t (h b (by simp))]
    simp only [List.drop_succ_cons, List.drop_zero, List.map_cons]
    rw [runesL_ascii t fun c hc => h c (by simp [hc])]

theorem runes_ascii (s : ByteArray) (h : IsAscii s) : runes s = s.data.toList.map fun b => (b.toNat : Int) := by
  rw [runes_L, runesL_ascii _ h]

theorem runes_ascii_length (s : ByteArray) (h : IsAscii s) : (runes s).length = s.size := by
  rw [runes_ascii s h, List.length_map]; rfl

/-- A text's byte at a place, as a number; 0 beyond. -/
def byteAt (s : ByteArray) (i : Nat) : Int := (((s.data.toList)[i]?.map (·.toNat)).getD 0 : Nat)

theorem nth_ascii (s : ByteArray) (h : IsAscii s) (i : Nat) : nth (runes s) i = byteAt s i := by
  rw [runes_ascii s h]
  unfold nth byteAt
  simp only [List.getD_eq_getElem?_getD, List.getElem?_map]
  cases s.data.toList[i]? <;> rfl

theorem isAscii_of (s : ByteArray) (h : ∀ i, (hi : i < s.size) → (s[i]'hi).toNat < 128) : IsAscii s := fun b hb => by
  obtain ⟨i, hi, rfl⟩ := List.getElem_of_mem hb
  exact h i hi
end Go.Proofs.YtbibokkclejapaaDoor
