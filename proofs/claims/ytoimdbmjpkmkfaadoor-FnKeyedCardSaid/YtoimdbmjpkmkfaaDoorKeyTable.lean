/- What the reference says of a step, and the package does: a table by kinds (FnKeyed). Cutword, backword, killfront and moveTo are not in it yet (their keys stand in TakenLaw and MoveToLaw). -/
import Derived.Test.YtoimdbmjpkmkfaaDoorKeyRest
import Derived.Test.YtoimdbmjpkmkfaaDoorKeyEndW
import Derived.Test.YtoimdbmjpkmkfaaDoorEdEnd2
import Derived.Test.YtoimdbmjpkmkfaaDoorPutsLaw
namespace Go.Proofs.YtoimdbmjpkmkfaaDoor
open Go.RowKit
set_option linter.unusedVariables false
set_option linter.unusedSimpArgs false

/-- It is not said; or both fail; or both do the same, and keep the same. -/
def Agreed3 (e : Ky) (l : List Int) (k : Nat) (kept : List Int) : Prop :=
  (∃ m l' k' kept' bad', DoOk e l k kept m l' k' kept' bad' true) ∨
  (DoOk e l k kept (-1) l k kept true false ∧ KeyBad e l k kept) ∨
  ∃ m l' k' kept', DoOk e l k kept m l' k' kept' false false ∧ KeyOk e l k kept m l' k' kept' ∧ k' ≤ l'.length ∧ kept'.length ≤ 1000

section
variable (l : List Int) (k : Nat) (kept : List Int) (s : ByteArray) (n : Int) (f b : Bool) (hk : k ≤ l.length) (hl : l.length ≤ 1000) (hs : s.size ≤ 100) (hkl : kept.length ≤ 1000)
include hk hl hkl
theorem ag_forward : Agreed3 ⟨2, s, n, f, b⟩ l k kept := .inr (.inr ⟨_, _, _, _, do_forward l k kept s n f b hk (by omega), key_forward l k kept hk (by omega) s n f b, by omega, by first | exact hkl | exact hl | (simp; omega) | (simp <;> omega)⟩)
theorem ag_backward : Agreed3 ⟨3, s, n, f, b⟩ l k kept := .inr (.inr ⟨_, _, _, _, do_backward l k kept s n f b hk (by omega), key_backward l k kept hk (by omega) s n f b, by omega, by first | exact hkl | exact hl | (simp; omega) | (simp <;> omega)⟩)
theorem ag_start : Agreed3 ⟨4, s, n, f, b⟩ l k kept := .inr (.inr ⟨_, _, _, _, do_start l k kept s n f b hk (by omega), key_start l k kept hk (by omega) s n f b, by omega, by first | exact hkl | exact hl | (simp; omega) | (simp <;> omega)⟩)
theorem ag_end : Agreed3 ⟨5, s, n, f, b⟩ l k kept := .inr (.inr ⟨_, _, _, _, do_end l k kept s n f b hk (by omega), key_end l k kept hk (by omega) s n f b, Nat.le_refl _, by first | exact hkl | exact hl | (simp; omega) | (simp <;> omega)⟩)
theorem ag_delete : Agreed3 ⟨6, s, n, f, b⟩ l k kept := by
  by_cases e : k < l.length
  · exact .inr (.inr ⟨_, _, _, _, do_delete l k kept s n f b hk (by omega) e, key_delete l k kept hk (by omega) e s n f b, by show k ≤ (without l k (k + 1)).length; unfold without; simp; omega, by first | exact hkl | exact hl | (simp; omega) | (simp <;> omega)⟩)
  · have e : k = l.length := by omega
    exact .inr (.inr ⟨_, _, _, _, do_delete_none l k kept s n f b hk (by omega) e, key_delete_none l k kept e (by omega) s n f b, hk, by first | exact hkl | exact hl | (simp; omega) | (simp <;> omega)⟩)
theorem ag_backspace : Agreed3 ⟨7, s, n, f, b⟩ l k kept := by
  by_cases e : 0 < k
  · have h := do_backspace l k kept s n f b hk (by omega) e
    rw [show without l (k - 1) k = cutAt l (k - 1) by unfold without cutAt; rw [show k - 1 + 1 = k by omega]] at h
    exact .inr (.inr ⟨_, _, _, _, h, key_backspace l k kept hk (by omega) e s n f b, by simp [cutAt]; omega, by first | exact hkl | exact hl | (simp; omega) | (simp <;> omega)⟩)
  · have e : k = 0 := by omega
    exact .inr (.inr ⟨_, _, _, _, do_backspace_none l k kept s n f b hk (by omega) e, key_backspace_none l k kept hk (by omega) e s n f b, hk, by first | exact hkl | exact hl | (simp; omega) | (simp <;> omega)⟩)
theorem ag_erase : Agreed3 ⟨9, s, n, f, b⟩ l k kept := by
  have _hkl := hkl
  have h := do_erase l k kept s n f b hk (by omega)
  rw [show without l 0 l.length = [] by simp [without], List.take_length, List.drop_zero] at h
  exact .inr (.inr ⟨_, _, _, _, h, key_erase l k kept hk (by omega) s n f b, Nat.le_refl _, by first | exact hkl | exact hl | (simp; omega) | (simp <;> omega)⟩)
theorem ag_nextword : Agreed3 ⟨11, s, n, f, b⟩ l k kept := by
  refine .inr (.inr ⟨_, _, _, _, do_nextword l k kept s n f b hk (by omega), key_nextword l k kept hk (by omega) s n f b, ?_, by first | exact hkl | exact hl | (simp; omega) | (simp <;> omega)⟩)
  have hbd := aftW_bd l (k + 1)
  split
  · exact Nat.le_refl _
  · rename_i h; have := hbd.2 h; omega
theorem ag_endword : Agreed3 ⟨12, s, n, f, b⟩ l k kept := by
  by_cases e : k = l.length
  · subst e
    exact .inr (.inr ⟨_, _, _, _, do_endword_end l kept s n f b, key_endword_none l _ kept hk (by omega) rfl s n f b, Nat.le_refl _, by first | exact hkl | exact hl | (simp; omega) | (simp <;> omega)⟩)
  · by_cases h : k + 1 < l.length ∨ isW (nth l k) = false
    · refine .inr (.inr ⟨_, _, _, _, do_endword l k kept s n f b (by omega) (by omega) h, key_endword l k kept hk (by omega) (by omega) h s n f b, ?_, by first | exact hkl | exact hl | (simp; omega) | (simp <;> omega)⟩)
      unfold endTo endF
      refine endN_le l _ _ ?_
      split <;> omega
    · have h1 : k + 1 = l.length := by
        have : ¬ k + 1 < l.length := fun h' => h (.inl h')
        omega
      have h2 : isW (nth l k) = true := by
        cases hx : isW (nth l k)
        · exact absurd (.inr hx) h
        · rfl
      exact .inl ⟨_, _, _, _, _, do_endword_open l k kept s n f b (by omega) h1 h2⟩
theorem ag_kill : Agreed3 ⟨15, s, n, f, b⟩ l k kept := by
  have _hkl := hkl
  have h := do_kill l k kept s n f b hk (by omega)
  rw [show without l k l.length = l.take k by simp [without], List.take_length] at h
  exact .inr (.inr ⟨_, _, _, _, h, key_kill l k kept hk (by omega) s n f b, by simp; omega, by first | exact hkl | exact hl | (simp; omega) | (simp <;> omega)⟩)
theorem ag_reset : Agreed3 ⟨21, s, n, f, b⟩ l k kept := .inr (.inr ⟨_, _, _, _, do_reset l k kept s n f b hk (by omega), key_reset l k kept hk (by omega) s n f b, Nat.le_refl _, by first | exact hkl | exact hl | (simp; omega) | (simp <;> omega)⟩)
include hs in
theorem ag_write : Agreed3 ⟨1, s, n, f, b⟩ l k kept := by
  have hr := runes_length s
  have hkey := key_write l k kept hk (by omega) s (by omega) n f b
  rw [← List.append_assoc] at hkey
  exact .inr (.inr ⟨_, _, _, _, do_write l k kept s n f b hk (by omega) (by omega), hkey, by simp; omega, by first | exact hkl | exact hl | (simp; omega) | (simp <;> omega)⟩)
theorem ag_replace (hn0 : 0 ≤ n) (hn1 : n ≤ 1114111) : Agreed3 ⟨8, s, n, f, b⟩ l k kept := by
  by_cases e : k < l.length
  · exact .inr (.inr ⟨_, _, _, _, do_replace l k kept s n f b e (by omega) hn0 hn1, key_replace l k kept hk (by omega) e n hn0 hn1 s f b, by rw [List.length_set]; exact hk, by first | exact hkl | exact hl | (simp; omega) | (simp <;> omega)⟩)
  · have e : k = l.length := by omega
    exact .inr (.inl ⟨do_replace_bad l k kept s n f b e (by omega), key_replace_bad l k kept e (by omega) s n hn0 hn1 f b⟩)
theorem ag_prevword : Agreed3 ⟨10, s, n, f, b⟩ l k kept := by
  have h := do_prevword l k kept s n f b hk (by omega)
  by_cases e : 0 < k
  · rw [show toldI (decide (0 < k)) = 1 by simp [toldI, e]] at h
    refine .inr (.inr ⟨_, _, _, _, h, key_prevword l k kept hk (by omega) e s n f b, ?_, by first | exact hkl | exact hl | (simp; omega) | (simp <;> omega)⟩)
    have := befW_lt l k; omega
  · obtain rfl : k = 0 := by omega
    have hz : (befW l 0).toNat = 0 := rfl
    rw [show toldI (decide (0 < 0)) = 0 by simp [toldI], hz] at h
    exact .inr (.inr ⟨_, _, _, _, h, key_prevword_none l 0 kept hk (by omega) rfl s n f b, Nat.zero_le _, by first | exact hkl | exact hl | (simp; omega) | (simp <;> omega)⟩)
theorem ag_yank : Agreed3 ⟨17, s, n, f, b⟩ l k kept := by
  have h := do_yank l k kept s n f b hk (by omega) (by omega)
  by_cases e : kept = []
  · subst e
    rw [List.append_nil, List.take_append_drop, List.length_nil, Nat.add_zero] at h
    exact .inr (.inr ⟨_, _, _, _, h, key_yank_none l k hk (by omega) s n f b, hk, by first | exact hkl | exact hl | (simp; omega) | (simp <;> omega)⟩)
  · have e0 : 0 < kept.length := List.length_pos_iff.2 e
    exact .inr (.inr ⟨_, _, _, _, h, key_yank l k kept hk (by omega) (by omega) e0 s n f b, by simp; omega, by first | exact hkl | exact hl | (simp; omega) | (simp <;> omega)⟩)
theorem ag_transpose : Agreed3 ⟨18, s, n, f, b⟩ l k kept := by
  by_cases e2 : 2 ≤ l.length
  · exact .inr (.inr ⟨_, _, _, _, do_tr l k kept s n f b _ _ _ (fun eb w h => tr_two eb l k _ kept w h hk e2 (by omega) rfl), key_transpose l k kept hk (by omega) e2 _ rfl s n f b, by rw [swp_length]; omega, by first | exact hkl | exact hl | (simp; omega) | (simp <;> omega)⟩)
  · by_cases e : l.length = 1 ∧ k = 0
    · obtain ⟨e1, rfl⟩ := e
      exact .inr (.inr ⟨_, _, _, _, do_tr l 0 kept s n f b _ _ _ (fun eb w h => tr_one eb l kept w h e1), key_transpose_one l 0 kept hk (by omega) rfl e1 s n f b, by omega, by first | exact hkl | exact hl | (simp; omega) | (simp <;> omega)⟩)
    · exact .inl ⟨_, _, _, _, _, do_tr l k kept s n f b _ _ _ (fun eb w h => tr_open eb l k kept w h (by omega))⟩
include hs in
theorem ag_set : Agreed3 ⟨20, s, n, f, b⟩ l k kept := by
  have hr := runes_length s
  by_cases e : n < 0 ∨ rl s < n
  · exact .inl ⟨_, _, _, _, _, do_set_open l k kept s n f b hk (by omega) (by omega) e⟩
  · have h0 : 0 ≤ n := by omega
    have h1 : n ≤ rl s := by omega
    obtain ⟨i, rfl⟩ := Int.eq_ofNat_of_zero_le h0
    have hi : i ≤ (runes s).length := by unfold rl at h1; omega
    have h := do_set l k kept s i f b hk (by omega) (by omega) h0 h1
    rw [Int.toNat_natCast] at h
    exact .inr (.inr ⟨_, _, _, _, h, key_set l k kept s (by omega) i hi f b, hi, by first | exact hkl | exact hl | (simp; omega) | (simp <;> omega)⟩)
end
end Go.Proofs.YtoimdbmjpkmkfaaDoor
