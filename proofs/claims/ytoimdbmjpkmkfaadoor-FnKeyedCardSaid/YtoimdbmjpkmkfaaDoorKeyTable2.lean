/- The table's last rows: cutword, backword, killfront, moveTo. -/
import Derived.Test.YtoimdbmjpkmkfaaDoorKeyTable
import Derived.Test.YtoimdbmjpkmkfaaDoorTakenLaw
import Derived.Test.YtoimdbmjpkmkfaaDoorMoveToLaw
namespace Go.Proofs.YtoimdbmjpkmkfaaDoor
open Go.RowKit
set_option linter.unusedVariables false
set_option linter.unusedSimpArgs false
section
variable (l : List Int) (k : Nat) (kept : List Int) (s : ByteArray) (n : Int) (f b : Bool) (hk : k ≤ l.length) (hl : l.length ≤ 1000) (hkl : kept.length ≤ 1000)
include hk hl hkl
theorem ag_cutword : Agreed3 ⟨13, s, n, f, b⟩ l k kept := by
  by_cases e : k < l.length
  · exact .inr (.inr ⟨_, _, _, _, do_cutword l k kept s n f b hk (by omega) e, keyw_cutword l k kept hk (by omega) e s n f b, by have := (cutTo_bd l k hk).1; unfold without; simp; omega, by first | exact hkl | exact hl | (simp; omega) | (simp <;> omega)⟩)
  · have e : k = l.length := by omega
    exact .inr (.inr ⟨_, _, _, _, do_cutword_none l k kept s n f b hk (by omega) e, key_cutword_none l k kept hk (by omega) e s n f b, hk, by first | exact hkl | exact hl | (simp; omega) | (simp <;> omega)⟩)
theorem ag_backword : Agreed3 ⟨14, s, n, f, b⟩ l k kept := by
  have _hkl := hkl
  by_cases e : befW l k = -1
  · exact .inl ⟨_, _, _, _, _, do_backword_open l k kept s n f b hk (by omega) e⟩
  · have hge := befW_ge l k
    have hlt := befW_lt l k
    obtain ⟨i, hi⟩ := Int.eq_ofNat_of_zero_le (show 0 ≤ befW l k by omega)
    have h := do_backword l k kept s n f b hk (by omega) e
    rw [hi, Int.toNat_natCast] at h
    exact .inr (.inr ⟨_, _, _, _, h, keyw_backword l k kept hk (by omega) i hi s n f b, by unfold without; simp; omega, by first | exact hkl | exact hl | (simp; omega) | (simp <;> omega)⟩)
theorem ag_killfront : Agreed3 ⟨16, s, n, f, b⟩ l k kept := by
  by_cases e : 0 < k
  · exact .inr (.inr ⟨_, _, _, _, do_killfront l k kept s n f b hk (by omega) e, keyw_killfront l k kept hk (by omega) e s n f b, Nat.zero_le _, by first | exact hkl | exact hl | (simp; omega) | (simp <;> omega)⟩)
  · have e : k = 0 := by omega
    exact .inr (.inr ⟨_, _, _, _, do_killfront_none l k kept s n f b hk (by omega) e, key_killfront_none l k kept hk (by omega) e s n f b, hk, by first | exact hkl | exact hl | (simp; omega) | (simp <;> omega)⟩)
theorem ag_move (hn0 : 0 ≤ n) (hn1 : n ≤ 1114111) (hm : mvK f b l n k ≤ l.length) : Agreed3 ⟨19, s, n, f, b⟩ l k kept :=
  .inr (.inr ⟨_, _, _, _, do_move l k kept s n f b hk (by omega) hn0 hn1, key_move l k kept s n f b hk (by omega) hn0 hn1, hm, by first | exact hkl | exact hl | (simp; omega) | (simp <;> omega)⟩)
end
end Go.Proofs.YtoimdbmjpkmkfaaDoor
