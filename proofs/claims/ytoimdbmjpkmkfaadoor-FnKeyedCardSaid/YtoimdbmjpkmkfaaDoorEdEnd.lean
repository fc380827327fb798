/- spec.Editor.endWord, and Do at it. -/
import Derived.Test.YtoimdbmjpkmkfaaDoorEdMore
import Derived.Test.YtoimdbmjpkmkfaaDoorPutsTs
namespace Go.Proofs.YtoimdbmjpkmkfaaDoor
open Go.RowKit
set_option linter.unusedVariables false
set_option linter.unusedSimpArgs false

/-- A word ends at a place, ahead of something between words. -/
def endB (l : List Int) (k : Nat) : Bool := decide (k + 1 < l.length) && (isW (nth l k) && !isW (nth l (k + 1)))
def endN (l : List Int) : Nat → Nat → Nat
  | 0, _ => l.length
  | n + 1, j => if endB l j then j else endN l n (j + 1)
/-- The first place from another one on where a word ends; the line's end without one. -/
def endF (l : List Int) (j : Nat) : Nat := endN l (l.length - j) j
theorem endF_step (l : List Int) (j : Nat) (h : j < l.length) : endF l j = if endB l j then j else endF l (j + 1) := by
  unfold endF
  obtain ⟨n, hn⟩ : ∃ n, l.length - j = n + 1 := ⟨l.length - j - 1, by omega⟩
  rw [hn, endN, show l.length - (j + 1) = n by omega]
theorem endF_end (l : List Int) (j : Nat) (h : l.length ≤ j) : endF l j = l.length := by
  unfold endF
  rw [show l.length - j = 0 by omega]
  rfl
theorem endN_le (l : List Int) : ∀ n j, j + n ≤ l.length → endN l n j ≤ l.length
  | 0, _, _ => Nat.le_refl _
  | n + 1, j, h => by
    rw [endN]
    split
    · omega
    · exact endN_le l n (j + 1) (by omega)
def endTo (l : List Int) (k : Nat) : Nat := endF l (if endB l k then k + 1 else k)

set_option maxHeartbeats 1000000 in
theorem ends_any (eb : Nat) (l : List Int) (k : Nat) (kept : List Int) (i : Nat) (w : World) (h : Ed w eb l k kept false false) (hl : l.length ≤ 100000) (hi : i ≤ 200000) :
    Calls Tryd.prog 48 #[.pointer (some ⟨eb, 0, none⟩), .int .i64 (i : Nat)] w fun e w' => e = .returned (.bool (endB l i)) ∧ w = w' := by
  obtain ⟨A, cap, B, cap2, hv⟩ := h
  have c0 := hv.c0
  have HR := Go.Lib.hid hv.r0
  clear hv
  obtain ⟨r, hr⟩ : ∃ r, r = endB l i := ⟨_, rfl⟩
  rw [← hr]
  unfold endB at hr
  have HB := Go.Lib.hid hr
  clear hr
  by_cases h1 : i + 1 < l.length
  · obtain ⟨m, hm⟩ : ∃ m, m = i + 1 := ⟨_, rfl⟩
    have hb := HB.out
    rw [show decide (i + 1 < l.length) = true by simp; omega, Bool.true_and, ← hm] at hb
    obtain ⟨b, off, rfl, ci⟩ := nth_cell HR.out i (by omega)
    obtain ⟨b2, off2, hA, cm⟩ := nth_cell HR.out m (by omega)
    cases hA
    have hw : IntKind.i64.wrap ((i : Int) + 1) = (m : Nat) := by rw [IntWalk.i64_in _ (by omega)]; omega
    have HI := Go.Lib.hid (isword_any (nth l i) w)
    have HM := Go.Lib.hid (isword_any (nth l m) w)
    have H2 := Go.Lib.hid hb
    generalize nth l i = x at ci HI H2
    generalize nth l m = y at cm HM H2
    generalize isW x = p at HI H2
    generalize isW y = q at HM H2
    have hm1 : (m : Int) < l.length := by omega
    have hi1 : (i : Int) < l.length := by omega
    clear hb HB hm h1
    cases p
    · obtain rfl : r = false := H2.out
      go_enter Tryd.func48, Tryd.ntmps48
      go_wp2_with fail
      refine HI.out.mono ?_
      rintro e w1 ⟨rfl, rfl⟩
      go_wp2_with fail
      go_returns
      exact ⟨rfl, rfl⟩
    · cases q
      · obtain rfl : r = true := H2.out
        go_enter Tryd.func48, Tryd.ntmps48
        go_wp2_with fail
        refine HI.out.mono ?_
        rintro e w1 ⟨rfl, rfl⟩
        go_wp2_with fail
        refine HM.out.mono ?_
        rintro e w1 ⟨rfl, rfl⟩
        go_wp2_with fail
        go_returns
        exact ⟨rfl, rfl⟩
      · obtain rfl : r = false := H2.out
        go_enter Tryd.func48, Tryd.ntmps48
        go_wp2_with fail
        refine HI.out.mono ?_
        rintro e w1 ⟨rfl, rfl⟩
        go_wp2_with fail
        refine HM.out.mono ?_
        rintro e w1 ⟨rfl, rfl⟩
        go_wp2_with fail
        go_returns
        exact ⟨rfl, rfl⟩
  · obtain rfl : r = false := by rw [HB.out, show decide (i + 1 < l.length) = false by simp; omega, Bool.false_and]
    have hi1 : ¬ (i : Int) + 1 < l.length := by omega
    go_enter Tryd.func48, Tryd.ntmps48
    go_wp2_with fail
    go_returns
    exact ⟨rfl, rfl⟩

theorem endword_end (eb : Nat) (l : List Int) (kept : List Int) (w : World) (h : Ed w eb l l.length kept false false) :
    Calls Tryd.prog 28 #[.pointer (some ⟨eb, 0, none⟩)] w (TrPost eb l l.length kept false w) := by
  have H := Go.Lib.hid h
  obtain ⟨A, cap, B, cap2, hv⟩ := h
  have c0 := hv.c0
  have c1 := hv.c1
  clear hv
  go_enter Tryd.func28, Tryd.ntmps28
  go_wp2_with fail
  go_returns
  exact ⟨rfl, H.out, EdK.refl _ _⟩

attribute [local go_sem] undef in
set_option maxHeartbeats 2000000 in
theorem endword_open (eb : Nat) (l : List Int) (k : Nat) (kept : List Int) (w : World) (h : Ed w eb l k kept false false) (hl : l.length ≤ 100000) (hk : k + 1 = l.length) (hw : isW (nth l k) = true) :
    Calls Tryd.prog 28 #[.pointer (some ⟨eb, 0, none⟩)] w (TrPost eb l k kept true w) := by
  obtain ⟨A, cap, B, cap2, hv⟩ := h
  have HV := Go.Lib.hid hv
  obtain ⟨b, off, rfl, ci⟩ := nth_cell hv.r0 k (by omega)
  have c0 := hv.c0
  have c1 := hv.c1
  have c4 := hv.c4
  have f4 := hv.f 4
  have sz := hv.sz
  have HI := Go.Lib.hid fun w => isword_any (nth l k) w
  rw [hw] at HI
  generalize nth l k = x at ci HI
  have e0 : ((k : Int) == (l.length : Int)) = false := by rw [beq_eq_false_iff_ne]; omega
  have e1 : IntKind.i64.wrap ((l.length : Int) - 1) = (k : Nat) := by rw [IntWalk.i64_in _ (by omega)]; omega
  have e2 : (k : Int) < l.length := by omega
  clear hv hk hw
  go_enter Tryd.func28, Tryd.ntmps28
  go_wp2_with fail
  refine region_held_tail 19 (S := (fun w' => w'.cell? ⟨eb, 0, none⟩ = some (.slice (some ⟨b, off, none⟩) l.length cap) ∧ w'.cell? ⟨eb, 1, none⟩ = some (.int .i64 (k : Nat)) ∧ w'.cell? ⟨b, off + k, none⟩ = some (.int .i32 x))) (by kernel_rfl) (by kernel_rfl) ?_ (fun hHeld => ?_)
  · (try dsimp only); first | done | (exact ⟨c0, c1, ci⟩)
  refine HeldT.take (i := 0) (v := ?_) (by simp only [List.getElem?_toArray, List.getElem?_cons_succ, List.getElem?_cons_zero]; rfl) (by kernel_rfl) (by kernel_rfl) (by kernel_rfl) (by kernel_rfl) (by exact fun _ _ _ h => h) ?_ (by assumption) ?_
  rotate_left
  · refine Or.inl ⟨by rfl, ?_⟩
    (intro w hSw; (try dsimp only at hSw); go_simp; try with_reducible rfl)
  try simp only [Act.put, List.setIfInBounds_toArray, List.set_cons_zero, List.set_cons_succ]
  refine HeldT.take (i := 1) (v := ?_) (by simp only [List.getElem?_toArray, List.getElem?_cons_succ, List.getElem?_cons_zero]; rfl) (by kernel_rfl) (by kernel_rfl) (by kernel_rfl) (by kernel_rfl) (by exact fun _ _ _ h => h) ?_ (by assumption) ?_
  rotate_left
  · refine Or.inl ⟨by rfl, ?_⟩
    (intro w hSw; (try dsimp only at hSw); go_simp; try with_reducible rfl)
  try simp only [Act.put, List.setIfInBounds_toArray, List.set_cons_zero, List.set_cons_succ]
  refine HeldT.take (i := 2) (v := ?_) (by simp only [List.getElem?_toArray, List.getElem?_cons_succ, List.getElem?_cons_zero]; rfl) (by kernel_rfl) (by kernel_rfl) (by kernel_rfl) (by kernel_rfl) (by exact fun _ _ _ h => h) ?_ (by assumption) ?_
  rotate_left
  · refine Or.inl ⟨by rfl, ?_⟩
    (intro w hSw; (try dsimp only at hSw); go_simp; try with_reducible rfl)
  try simp only [Act.put, List.setIfInBounds_toArray, List.set_cons_zero, List.set_cons_succ]
  refine HeldT.take (i := 3) (v := ?_) (by simp only [List.getElem?_toArray, List.getElem?_cons_succ, List.getElem?_cons_zero]; rfl) (by kernel_rfl) (by kernel_rfl) (by kernel_rfl) (by kernel_rfl) (by exact fun _ _ _ h => h) ?_ (by assumption) ?_
  rotate_left
  · refine Or.inl ⟨by rfl, ?_⟩
    (intro w hSw; (try dsimp only at hSw); go_simp; try with_reducible rfl)
  try simp only [Act.put, List.setIfInBounds_toArray, List.set_cons_zero, List.set_cons_succ]
  refine HeldT.take (i := 4) (v := ?_) (by simp only [List.getElem?_toArray, List.getElem?_cons_succ, List.getElem?_cons_zero]; rfl) (by kernel_rfl) (by kernel_rfl) (by kernel_rfl) (by kernel_rfl) (by exact fun _ _ _ h => h) ?_ (by assumption) ?_
  rotate_left
  · refine Or.inl ⟨by rfl, ?_⟩
    (intro w hSw; (try dsimp only at hSw); go_simp; try with_reducible rfl)
  try simp only [Act.put, List.setIfInBounds_toArray, List.set_cons_zero, List.set_cons_succ]
  refine HeldT.take (i := 5) (v := ?_) (by simp only [List.getElem?_toArray, List.getElem?_cons_succ, List.getElem?_cons_zero]; rfl) (by kernel_rfl) (by kernel_rfl) (by kernel_rfl) (by kernel_rfl) (by exact fun _ _ _ h => h) ?_ (by assumption) ?_
  rotate_left
  · refine Or.inl ⟨by rfl, ?_⟩
    (intro w hSw; (try dsimp only at hSw); go_simp; try with_reducible rfl)
  try simp only [Act.put, List.setIfInBounds_toArray, List.set_cons_zero, List.set_cons_succ]
  refine HeldT.take (i := 6) (v := ?_) (by simp only [List.getElem?_toArray, List.getElem?_cons_succ, List.getElem?_cons_zero]; rfl) (by kernel_rfl) (by kernel_rfl) (by kernel_rfl) (by kernel_rfl) (by exact fun _ _ _ h => h) ?_ (by assumption) ?_
  rotate_left
  · refine Or.inl ⟨by rfl, ?_⟩
    (intro w hSw; (try dsimp only at hSw); go_simp; try with_reducible rfl)
  try simp only [Act.put, List.setIfInBounds_toArray, List.set_cons_zero, List.set_cons_succ]
  refine HeldT.take (i := 7) (v := ?_) (by simp only [List.getElem?_toArray, List.getElem?_cons_succ, List.getElem?_cons_zero]; rfl) (by kernel_rfl) (by kernel_rfl) (by kernel_rfl) (by kernel_rfl) (by exact fun _ _ _ h => h) ?_ (by assumption) ?_
  rotate_left
  · refine Or.inl ⟨by rfl, ?_⟩
    (intro w hSw; (try dsimp only at hSw); go_simp; try with_reducible rfl)
  try simp only [Act.put, List.setIfInBounds_toArray, List.set_cons_zero, List.set_cons_succ]
  refine HeldT.take (i := 8) (v := ?_) (by simp only [List.getElem?_toArray, List.getElem?_cons_succ, List.getElem?_cons_zero]; rfl) (by kernel_rfl) (by kernel_rfl) (by kernel_rfl) (by kernel_rfl) (by exact fun _ _ _ h => h) ?_ (by assumption) ?_
  rotate_left
  · refine Or.inl ⟨by rfl, ?_⟩
    (intro w hSw; (try dsimp only at hSw); go_simp; try with_reducible rfl)
  try simp only [Act.put, List.setIfInBounds_toArray, List.set_cons_zero, List.set_cons_succ]
  refine HeldT.take (i := 9) (v := ?_) (by simp only [List.getElem?_toArray, List.getElem?_cons_succ, List.getElem?_cons_zero]; rfl) (by kernel_rfl) (by kernel_rfl) (by kernel_rfl) (by kernel_rfl) (by exact fun _ _ _ h => h) ?_ (by assumption) ?_
  rotate_left
  · refine Or.inl ⟨by rfl, ?_⟩
    (intro w hSw; (try dsimp only at hSw); go_simp; try with_reducible rfl)
  try simp only [Act.put, List.setIfInBounds_toArray, List.set_cons_zero, List.set_cons_succ]
  refine HeldT.take (i := 10) (v := ?_) (by simp only [List.getElem?_toArray, List.getElem?_cons_succ, List.getElem?_cons_zero]; rfl) (by kernel_rfl) (by kernel_rfl) (by kernel_rfl) (by kernel_rfl) (by exact fun _ _ _ h => h) ?_ (by assumption) ?_
  rotate_left
  · refine Or.inl ⟨by rfl, ?_⟩
    (intro w hSw; (try dsimp only at hSw); go_simp; try with_reducible rfl)
  try simp only [Act.put, List.setIfInBounds_toArray, List.set_cons_zero, List.set_cons_succ]
  refine HeldT.take (i := 11) (v := ?_) (by simp only [List.getElem?_toArray, List.getElem?_cons_succ, List.getElem?_cons_zero]; rfl) (by kernel_rfl) (by kernel_rfl) (by kernel_rfl) (by kernel_rfl) (by exact fun _ _ _ h => h) ?_ (by assumption) ?_
  rotate_left
  · refine Or.inl ⟨by rfl, ?_⟩
    (intro w hSw; (try dsimp only at hSw); go_simp; try with_reducible rfl)
  try simp only [Act.put, List.setIfInBounds_toArray, List.set_cons_zero, List.set_cons_succ]
  refine HeldT.take (i := 12) (v := ?_) (by simp only [List.getElem?_toArray, List.getElem?_cons_succ, List.getElem?_cons_zero]; rfl) (by kernel_rfl) (by kernel_rfl) (by kernel_rfl) (by kernel_rfl) (by exact fun _ _ _ h => h) ?_ (by assumption) ?_
  rotate_left
  · refine Or.inl ⟨by rfl, ?_⟩
    (intro w hSw; (try dsimp only at hSw); go_simp; try with_reducible rfl)
  try simp only [Act.put, List.setIfInBounds_toArray, List.set_cons_zero, List.set_cons_succ]
  refine HeldT.take (i := 13) (v := ?_) (by simp only [List.getElem?_toArray, List.getElem?_cons_succ, List.getElem?_cons_zero]; rfl) (by kernel_rfl) (by kernel_rfl) (by kernel_rfl) (by kernel_rfl) (by exact fun _ _ _ h => h) ?_ (by assumption) ?_
  rotate_left
  · refine Or.inl ⟨by rfl, ?_⟩
    (intro w hSw; (try dsimp only at hSw); go_simp; try with_reducible rfl)
  try simp only [Act.put, List.setIfInBounds_toArray, List.set_cons_zero, List.set_cons_succ]
  refine HeldT.take (i := 14) (v := ?_) (by simp only [List.getElem?_toArray, List.getElem?_cons_succ, List.getElem?_cons_zero]; rfl) (by kernel_rfl) (by kernel_rfl) (by kernel_rfl) (by kernel_rfl) (by exact fun _ _ _ h => h) ?_ (by assumption) ?_
  rotate_left
  · refine Or.inl ⟨by rfl, ?_⟩
    (intro w hSw; (try dsimp only at hSw); go_simp; try with_reducible rfl)
  try simp only [Act.put, List.setIfInBounds_toArray, List.set_cons_zero, List.set_cons_succ]
  refine HeldT.take (i := 15) (v := ?_) (by simp only [List.getElem?_toArray, List.getElem?_cons_succ, List.getElem?_cons_zero]; rfl) (by kernel_rfl) (by kernel_rfl) (by kernel_rfl) (by kernel_rfl) (by exact fun _ _ _ h => h) ?_ (by assumption) ?_
  rotate_left
  · refine Or.inl ⟨by rfl, ?_⟩
    (intro w hSw; (try dsimp only at hSw); go_simp; try with_reducible rfl)
  try simp only [Act.put, List.setIfInBounds_toArray, List.set_cons_zero, List.set_cons_succ]
  refine HeldT.take (i := 16) (v := ?_) (by simp only [List.getElem?_toArray, List.getElem?_cons_succ, List.getElem?_cons_zero]; rfl) (by kernel_rfl) (by kernel_rfl) (by kernel_rfl) (by kernel_rfl) (by exact fun _ _ _ h => h) ?_ (by assumption) ?_
  rotate_left
  · refine Or.inl ⟨by rfl, ?_⟩
    (intro w hSw; (try dsimp only at hSw); go_simp; try with_reducible rfl)
  try simp only [Act.put, List.setIfInBounds_toArray, List.set_cons_zero, List.set_cons_succ]
  refine HeldT.take (i := 17) (v := ?_) (by simp only [List.getElem?_toArray, List.getElem?_cons_succ, List.getElem?_cons_zero]; rfl) (by kernel_rfl) (by kernel_rfl) (by kernel_rfl) (by kernel_rfl) (by exact fun _ _ _ h => h) ?_ (by assumption) ?_
  rotate_left
  · refine Or.inl ⟨by rfl, ?_⟩
    (intro w hSw; (try dsimp only at hSw); go_simp; try with_reducible rfl)
  try simp only [Act.put, List.setIfInBounds_toArray, List.set_cons_zero, List.set_cons_succ]
  refine HeldT.one (i := 18) (by simp only [List.getElem?_toArray, List.getElem?_cons_succ, List.getElem?_cons_zero]; rfl) (by kernel_rfl) (by kernel_rfl) (fun K hK => ?_)
  go_simp
  ((refine (HI.out _).mono ?_); rintro e w1 ⟨rfl, rfl⟩)
  try go_wp2_with fail
  refine hK.out _ _ ?_ (fun hHeld => ?_)
  · (try dsimp only); first | done | (exact ⟨c0, c1, ci⟩)
  clear hK K
  try simp only [Act.put, List.setIfInBounds_toArray, List.set_cons_zero, List.set_cons_succ]
  refine HeldT.tail (by kernel_rfl) rfl ?_
  clear hHeld
  go_wp2_with fail
  go_returns
  exact ⟨rfl, ⟨_, _, _, _, (HV.out.same (Below.refl _ _).drew).setOpen true⟩, ((EdK.refl _ _).drewN 1).set _ _⟩
end Go.Proofs.YtoimdbmjpkmkfaaDoor
