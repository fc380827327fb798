/- spec.Editor.endWord where it moves (printed by wip/gen/mkedend2.py). -/
import Derived.Test.YtoimdbmjpkmkfaaDoorEdEnd
namespace Go.Proofs.YtoimdbmjpkmkfaaDoor
open Go.RowKit
set_option linter.unusedVariables false
set_option linter.unusedSimpArgs false

attribute [local go_sem] undef in
set_option maxHeartbeats 4000000 in
theorem endword_in (eb : Nat) (l : List Int) (k : Nat) (kept : List Int) (w : World) (h : Ed w eb l k kept false false) (hl : l.length ≤ 100000) (hk : k + 1 < l.length) :
    Calls Tryd.prog 28 #[.pointer (some ⟨eb, 0, none⟩)] w (TrPost eb l (endTo l k) kept false w) := by
  obtain ⟨A, cap, B, cap2, hv⟩ := h
  have HV := Go.Lib.hid hv
  have hkl : k < l.length := by omega
  obtain ⟨b, off, rfl, ci⟩ := nth_cell hv.r0 k hkl
  have c0 := hv.c0
  have c1 := hv.c1
  have sz := hv.sz
  have e0 : ((k : Int) == (l.length : Int)) = false := by rw [beq_eq_false_iff_ne]; omega
  obtain ⟨n1, hn1⟩ : ∃ n1, n1 = l.length - 1 := ⟨_, rfl⟩
  have e1 : IntKind.i64.wrap ((l.length : Int) - 1) = (n1 : Nat) := by rw [IntWalk.i64_in _ (by omega)]; omega
  have e2 : ((k : Int) == (n1 : Int)) = false := by rw [beq_eq_false_iff_ne]; omega
  clear hn1
  clear hv
  go_enter Tryd.func28, Tryd.ntmps28
  go_wp2_with fail
  refine region_held_tail 19 (S := (fun w' => w'.cell? ⟨eb, 0, none⟩ = some (.slice (some ⟨b, off, none⟩) l.length cap) ∧ w'.cell? ⟨eb, 1, none⟩ = some (.int .i64 (k : Nat)))) (by kernel_rfl) (by kernel_rfl) ?_ (fun hHeld => ?_)
  · (try dsimp only); first | done | (exact ⟨c0, c1⟩)
  refine HeldT.take (i := 0) (v := ?_) (by simp only [List.getElem?_toArray, List.getElem?_cons_succ, List.getElem?_cons_zero]; rfl) (by kernel_rfl) (by kernel_rfl) (by kernel_rfl) (by kernel_rfl) (by exact fun _ _ _ h => h) ?_ (by assumption) ?_
  rotate_left
  · refine Or.inl ⟨by rfl, ?_⟩
    (intro w hSw; (try dsimp only at hSw); go_simp; try with_reducible rfl)
  try simp only [Act.put, List.setIfInBounds_toArray, List.set_cons_zero, List.set_cons_succ]
  refine HeldT.take (i := 1) (v := ?_) (by simp only [List.getElem?_toArray, List.getElem?_cons_succ, List.getElem?_cons_zero]; rfl) (by kernel_rfl) (by kernel_rfl) (by kernel_rfl) (by kernel_rfl) (by exact fun _ _ _ h => h) ?_ (by assumption) ?_
  rotate_left
  · refine Or.inl ⟨by rfl, ?_⟩
    (intro w hSw; (try dsimp only at hSw); go_simp; try with_reducible rfl)
  try simp only [Act.put, List.setIfInBounds_toArray, List.set_cons_zero, List.set_cons_succ]
  refine HeldT.take (i := 2) (v := ?_) (by simp only [List.getElem?_toArray, List.getElem?_cons_succ, List.getElem?_cons_zero]; rfl) (by kernel_rfl) (by kernel_rfl) (by kernel_rfl) (by kernel_rfl) (by exact fun _ _ _ h => h) ?_ (by assumption) ?_
  rotate_left
  · refine Or.inl ⟨by rfl, ?_⟩
    (intro w hSw; (try dsimp only at hSw); go_simp; try with_reducible rfl)
  try simp only [Act.put, List.setIfInBounds_toArray, List.set_cons_zero, List.set_cons_succ]
  refine HeldT.take (i := 3) (v := ?_) (by simp only [List.getElem?_toArray, List.getElem?_cons_succ, List.getElem?_cons_zero]; rfl) (by kernel_rfl) (by kernel_rfl) (by kernel_rfl) (by kernel_rfl) (by exact fun _ _ _ h => h) ?_ (by assumption) ?_
  rotate_left
  · refine Or.inl ⟨by rfl, ?_⟩
    (intro w hSw; (try dsimp only at hSw); go_simp; try with_reducible rfl)
  try simp only [Act.put, List.setIfInBounds_toArray, List.set_cons_zero, List.set_cons_succ]
  refine HeldT.take (i := 4) (v := ?_) (by simp only [List.getElem?_toArray, List.getElem?_cons_succ, List.getElem?_cons_zero]; rfl) (by kernel_rfl) (by kernel_rfl) (by kernel_rfl) (by kernel_rfl) (by exact fun _ _ _ h => h) ?_ (by assumption) ?_
  rotate_left
  · refine Or.inl ⟨by rfl, ?_⟩
    (intro w hSw; (try dsimp only at hSw); go_simp; try with_reducible rfl)
  try simp only [Act.put, List.setIfInBounds_toArray, List.set_cons_zero, List.set_cons_succ]
  refine HeldT.take (i := 5) (v := ?_) (by simp only [List.getElem?_toArray, List.getElem?_cons_succ, List.getElem?_cons_zero]; rfl) (by kernel_rfl) (by kernel_rfl) (by kernel_rfl) (by kernel_rfl) (by exact fun _ _ _ h => h) ?_ (by assumption) ?_
  rotate_left
  · refine Or.inl ⟨by rfl, ?_⟩
    (intro w hSw; (try dsimp only at hSw); go_simp; try with_reducible rfl)
  try simp only [Act.put, List.setIfInBounds_toArray, List.set_cons_zero, List.set_cons_succ]
  refine HeldT.take (i := 6) (v := ?_) (by simp only [List.getElem?_toArray, List.getElem?_cons_succ, List.getElem?_cons_zero]; rfl) (by kernel_rfl) (by kernel_rfl) (by kernel_rfl) (by kernel_rfl) (by exact fun _ _ _ h => h) ?_ (by assumption) ?_
  rotate_left
  · refine Or.inl ⟨by rfl, ?_⟩
    (intro w hSw; (try dsimp only at hSw); go_simp; try with_reducible rfl)
  try simp only [Act.put, List.setIfInBounds_toArray, List.set_cons_zero, List.set_cons_succ]
  refine HeldT.take (i := 7) (v := ?_) (by simp only [List.getElem?_toArray, List.getElem?_cons_succ, List.getElem?_cons_zero]; rfl) (by kernel_rfl) (by kernel_rfl) (by kernel_rfl) (by kernel_rfl) (by exact fun _ _ _ h => h) ?_ (by assumption) ?_
  rotate_left
  · refine Or.inl ⟨by rfl, ?_⟩
    (intro w hSw; (try dsimp only at hSw); go_simp; try with_reducible rfl)
  try simp only [Act.put, List.setIfInBounds_toArray, List.set_cons_zero, List.set_cons_succ]
  refine HeldT.take (i := 8) (v := undef) (by simp only [List.getElem?_toArray, List.getElem?_cons_succ, List.getElem?_cons_zero]; rfl) (by kernel_rfl) (by kernel_rfl) (by kernel_rfl) (by kernel_rfl) (by exact fun _ _ _ h => h) (Or.inr ⟨by rfl, by rfl⟩) (by assumption) ?_
  try simp only [Act.put, List.setIfInBounds_toArray, List.set_cons_zero, List.set_cons_succ]
  refine HeldT.take (i := 9) (v := undef) (by simp only [List.getElem?_toArray, List.getElem?_cons_succ, List.getElem?_cons_zero]; rfl) (by kernel_rfl) (by kernel_rfl) (by kernel_rfl) (by kernel_rfl) (by exact fun _ _ _ h => h) (Or.inr ⟨by rfl, by rfl⟩) (by assumption) ?_
  try simp only [Act.put, List.setIfInBounds_toArray, List.set_cons_zero, List.set_cons_succ]
  refine HeldT.take (i := 10) (v := undef) (by simp only [List.getElem?_toArray, List.getElem?_cons_succ, List.getElem?_cons_zero]; rfl) (by kernel_rfl) (by kernel_rfl) (by kernel_rfl) (by kernel_rfl) (by exact fun _ _ _ h => h) (Or.inr ⟨by rfl, by rfl⟩) (by assumption) ?_
  try simp only [Act.put, List.setIfInBounds_toArray, List.set_cons_zero, List.set_cons_succ]
  refine HeldT.take (i := 11) (v := undef) (by simp only [List.getElem?_toArray, List.getElem?_cons_succ, List.getElem?_cons_zero]; rfl) (by kernel_rfl) (by kernel_rfl) (by kernel_rfl) (by kernel_rfl) (by exact fun _ _ _ h => h) (Or.inr ⟨by rfl, by rfl⟩) (by assumption) ?_
  try simp only [Act.put, List.setIfInBounds_toArray, List.set_cons_zero, List.set_cons_succ]
  refine HeldT.take (i := 12) (v := undef) (by simp only [List.getElem?_toArray, List.getElem?_cons_succ, List.getElem?_cons_zero]; rfl) (by kernel_rfl) (by kernel_rfl) (by kernel_rfl) (by kernel_rfl) (by exact fun _ _ _ h => h) (Or.inr ⟨by rfl, by rfl⟩) (by assumption) ?_
  try simp only [Act.put, List.setIfInBounds_toArray, List.set_cons_zero, List.set_cons_succ]
  refine HeldT.take (i := 13) (v := undef) (by simp only [List.getElem?_toArray, List.getElem?_cons_succ, List.getElem?_cons_zero]; rfl) (by kernel_rfl) (by kernel_rfl) (by kernel_rfl) (by kernel_rfl) (by exact fun _ _ _ h => h) (Or.inr ⟨by rfl, by rfl⟩) (by assumption) ?_
  try simp only [Act.put, List.setIfInBounds_toArray, List.set_cons_zero, List.set_cons_succ]
  refine HeldT.take (i := 14) (v := undef) (by simp only [List.getElem?_toArray, List.getElem?_cons_succ, List.getElem?_cons_zero]; rfl) (by kernel_rfl) (by kernel_rfl) (by kernel_rfl) (by kernel_rfl) (by exact fun _ _ _ h => h) (Or.inr ⟨by rfl, by rfl⟩) (by assumption) ?_
  try simp only [Act.put, List.setIfInBounds_toArray, List.set_cons_zero, List.set_cons_succ]
  refine HeldT.take (i := 15) (v := undef) (by simp only [List.getElem?_toArray, List.getElem?_cons_succ, List.getElem?_cons_zero]; rfl) (by kernel_rfl) (by kernel_rfl) (by kernel_rfl) (by kernel_rfl) (by exact fun _ _ _ h => h) (Or.inr ⟨by rfl, by rfl⟩) (by assumption) ?_
  try simp only [Act.put, List.setIfInBounds_toArray, List.set_cons_zero, List.set_cons_succ]
  refine HeldT.take (i := 16) (v := undef) (by simp only [List.getElem?_toArray, List.getElem?_cons_succ, List.getElem?_cons_zero]; rfl) (by kernel_rfl) (by kernel_rfl) (by kernel_rfl) (by kernel_rfl) (by exact fun _ _ _ h => h) (Or.inr ⟨by rfl, by rfl⟩) (by assumption) ?_
  try simp only [Act.put, List.setIfInBounds_toArray, List.set_cons_zero, List.set_cons_succ]
  refine HeldT.take (i := 17) (v := undef) (by simp only [List.getElem?_toArray, List.getElem?_cons_succ, List.getElem?_cons_zero]; rfl) (by kernel_rfl) (by kernel_rfl) (by kernel_rfl) (by kernel_rfl) (by exact fun _ _ _ h => h) (Or.inr ⟨by rfl, by rfl⟩) (by assumption) ?_
  try simp only [Act.put, List.setIfInBounds_toArray, List.set_cons_zero, List.set_cons_succ]
  refine HeldT.take (i := 18) (v := undef) (by simp only [List.getElem?_toArray, List.getElem?_cons_succ, List.getElem?_cons_zero]; rfl) (by kernel_rfl) (by kernel_rfl) (by kernel_rfl) (by kernel_rfl) (by exact fun _ _ _ h => h) (Or.inr ⟨by rfl, by rfl⟩) (by assumption) ?_
  try simp only [Act.put, List.setIfInBounds_toArray, List.set_cons_zero, List.set_cons_succ]
  refine HeldT.tail (by kernel_rfl) rfl ?_
  clear hHeld
  obtain ⟨wx, hwx⟩ : ∃ wx, wx = w.drew := ⟨_, rfl⟩
  have VX : Hid (EdV wx eb l k kept false false (some ⟨b, off, none⟩) cap B cap2) := hwx ▸ HV.out.same (Below.refl _ _).drew
  have HX : Hid (Ed wx eb l k kept false false) := ⟨_, _, _, _, VX.out⟩
  have KX : Hid (EdK eb w wx) := hwx ▸ (EdK.refl _ _).drewN 1
  have HE := Go.Lib.hid (ends_any eb l k kept k wx HX.out hl (by omega))
  rw [← hwx]
  have x0 := VX.out.c0
  have x1 := VX.out.c1
  have xf := VX.out.f 1
  have xz := VX.out.sz
  have HTO : Hid (endTo l k = endF l (if endB l k then k + 1 else k)) := rfl
  generalize endB l k = p at HE HTO
  clear hwx c0 c1 sz ci
  cases p
  · have HFR : Hid (endTo l k = endF l k) := HTO.out
    clear HTO
    go_wp2_with fail
    refine HE.out.mono ?_
    rintro e w1 ⟨rfl, rfl⟩
    go_wp2_with fail
    go_loop [4] (fun x => ∃ m : Nat, x = .int .i64 m ∧ m ≤ l.length ∧ Hid (endTo l k = endF l m)) (fun x => l.length - (intOf x).toNat)
    case atStart => exact ⟨k, by go_num, by omega, HFR.out⟩
    case round =>
      obtain ⟨m, rfl, hm, HF⟩ := hrel
      by_cases hml : m < l.length
      · have hb1 : (m : Int) < l.length := by omega
        have hst := endF_step l m hml
        have hf := HF.out
        rw [hst] at hf
        have HC := Go.Lib.hid (ends_any eb l k kept m wx HX.out hl (by omega))
        generalize endB l m = p2 at HC hf
        have HF2 := Go.Lib.hid hf
        clear hst hf
        cases p2
        · go_wp2_with fail
          refine HC.out.mono ?_
          rintro e w1 ⟨rfl, rfl⟩
          go_wp2_with fail
          go_round
          case rel => exact ⟨m + 1, by go_num, by omega, HF2.out⟩
          case measure => simp [intOf] <;> omega
        · go_wp2_with fail
          refine HC.out.mono ?_
          rintro e w1 ⟨rfl, rfl⟩
          go_wp2_with fail
          go_returns
          exact ⟨rfl, by rw [show endTo l k = m from HF2.out]; exact ⟨_, _, _, _, VX.out.at m⟩, KX.out.set _ _⟩
      · have hb1 : ¬ (m : Int) < l.length := by omega
        have HF2 : Hid (endTo l k = l.length) := HF.out.trans (endF_end l m (by omega))
        go_wp2_with fail
        go_returns
        exact ⟨rfl, by rw [HF2.out]; exact ⟨_, _, _, _, VX.out.at l.length⟩, KX.out.set _ _⟩
  · have HFR : Hid (endTo l k = endF l (k + 1)) := HTO.out
    clear HTO
    go_wp2_with fail
    refine HE.out.mono ?_
    rintro e w1 ⟨rfl, rfl⟩
    go_wp2_with fail
    go_loop [4] (fun x => ∃ m : Nat, x = .int .i64 m ∧ m ≤ l.length ∧ Hid (endTo l k = endF l m)) (fun x => l.length - (intOf x).toNat)
    case atStart => exact ⟨k + 1, by go_num, by omega, HFR.out⟩
    case round =>
      obtain ⟨m, rfl, hm, HF⟩ := hrel
      by_cases hml : m < l.length
      · have hb1 : (m : Int) < l.length := by omega
        have hst := endF_step l m hml
        have hf := HF.out
        rw [hst] at hf
        have HC := Go.Lib.hid (ends_any eb l k kept m wx HX.out hl (by omega))
        generalize endB l m = p2 at HC hf
        have HF2 := Go.Lib.hid hf
        clear hst hf
        cases p2
        · go_wp2_with fail
          refine HC.out.mono ?_
          rintro e w1 ⟨rfl, rfl⟩
          go_wp2_with fail
          go_round
          case rel => exact ⟨m + 1, by go_num, by omega, HF2.out⟩
          case measure => simp [intOf] <;> omega
        · go_wp2_with fail
          refine HC.out.mono ?_
          rintro e w1 ⟨rfl, rfl⟩
          go_wp2_with fail
          go_returns
          exact ⟨rfl, by rw [show endTo l k = m from HF2.out]; exact ⟨_, _, _, _, VX.out.at m⟩, KX.out.set _ _⟩
      · have hb1 : ¬ (m : Int) < l.length := by omega
        have HF2 : Hid (endTo l k = l.length) := HF.out.trans (endF_end l m (by omega))
        go_wp2_with fail
        go_returns
        exact ⟨rfl, by rw [HF2.out]; exact ⟨_, _, _, _, VX.out.at l.length⟩, KX.out.set _ _⟩

attribute [local go_sem] undef in
set_option maxHeartbeats 4000000 in
theorem endword_last (eb : Nat) (l : List Int) (k : Nat) (kept : List Int) (w : World) (h : Ed w eb l k kept false false) (hl : l.length ≤ 100000) (hk : k + 1 = l.length) (hw : isW (nth l k) = false) :
    Calls Tryd.prog 28 #[.pointer (some ⟨eb, 0, none⟩)] w (TrPost eb l (endTo l k) kept false w) := by
  obtain ⟨A, cap, B, cap2, hv⟩ := h
  have HV := Go.Lib.hid hv
  have hkl : k < l.length := by omega
  obtain ⟨b, off, rfl, ci⟩ := nth_cell hv.r0 k hkl
  have c0 := hv.c0
  have c1 := hv.c1
  have sz := hv.sz
  have e0 : ((k : Int) == (l.length : Int)) = false := by rw [beq_eq_false_iff_ne]; omega
  have e1 : IntKind.i64.wrap ((l.length : Int) - 1) = (k : Nat) := by rw [IntWalk.i64_in _ (by omega)]; omega
  have e2 : (k : Int) < l.length := by omega
  have HI := Go.Lib.hid fun w => isword_any (nth l k) w
  rw [hw] at HI
  generalize nth l k = x at ci HI
  clear hw hk
  clear hv
  go_enter Tryd.func28, Tryd.ntmps28
  go_wp2_with fail
  refine region_held_tail 19 (S := (fun w' => w'.cell? ⟨eb, 0, none⟩ = some (.slice (some ⟨b, off, none⟩) l.length cap) ∧ w'.cell? ⟨eb, 1, none⟩ = some (.int .i64 (k : Nat)) ∧ w'.cell? ⟨b, off + k, none⟩ = some (.int .i32 x))) (by kernel_rfl) (by kernel_rfl) ?_ (fun hHeld => ?_)
  · (try dsimp only); first | done | (exact ⟨c0, c1, ci⟩)
  refine HeldT.take (i := 0) (v := ?_) (by simp only [List.getElem?_toArray, List.getElem?_cons_succ, List.getElem?_cons_zero]; rfl) (by kernel_rfl) (by kernel_rfl) (by kernel_rfl) (by kernel_rfl) (by exact fun _ _ _ h => h) ?_ (by assumption) ?_
  rotate_left
  · refine Or.inl ⟨by rfl, ?_⟩
    (intro w hSw; (try dsimp only at hSw); go_simp; try with_reducible rfl)
  try simp only [Act.put, List.setIfInBounds_toArray, List.set_cons_zero, List.set_cons_succ]
  refine HeldT.take (i := 1) (v := ?_) (by simp only [List.getElem?_toArray, List.getElem?_cons_succ, List.getElem?_cons_zero]; rfl) (by kernel_rfl) (by kernel_rfl) (by kernel_rfl) (by kernel_rfl) (by exact fun _ _ _ h => h) ?_ (by assumption) ?_
  rotate_left
  · refine Or.inl ⟨by rfl, ?_⟩
    (intro w hSw; (try dsimp only at hSw); go_simp; try with_reducible rfl)
  try simp only [Act.put, List.setIfInBounds_toArray, List.set_cons_zero, List.set_cons_succ]
  refine HeldT.take (i := 2) (v := ?_) (by simp only [List.getElem?_toArray, List.getElem?_cons_succ, List.getElem?_cons_zero]; rfl) (by kernel_rfl) (by kernel_rfl) (by kernel_rfl) (by kernel_rfl) (by exact fun _ _ _ h => h) ?_ (by assumption) ?_
  rotate_left
  · refine Or.inl ⟨by rfl, ?_⟩
    (intro w hSw; (try dsimp only at hSw); go_simp; try with_reducible rfl)
  try simp only [Act.put, List.setIfInBounds_toArray, List.set_cons_zero, List.set_cons_succ]
  refine HeldT.take (i := 3) (v := ?_) (by simp only [List.getElem?_toArray, List.getElem?_cons_succ, List.getElem?_cons_zero]; rfl) (by kernel_rfl) (by kernel_rfl) (by kernel_rfl) (by kernel_rfl) (by exact fun _ _ _ h => h) ?_ (by assumption) ?_
  rotate_left
  · refine Or.inl ⟨by rfl, ?_⟩
    (intro w hSw; (try dsimp only at hSw); go_simp; try with_reducible rfl)
  try simp only [Act.put, List.setIfInBounds_toArray, List.set_cons_zero, List.set_cons_succ]
  refine HeldT.take (i := 4) (v := ?_) (by simp only [List.getElem?_toArray, List.getElem?_cons_succ, List.getElem?_cons_zero]; rfl) (by kernel_rfl) (by kernel_rfl) (by kernel_rfl) (by kernel_rfl) (by exact fun _ _ _ h => h) ?_ (by assumption) ?_
  rotate_left
  · refine Or.inl ⟨by rfl, ?_⟩
    (intro w hSw; (try dsimp only at hSw); go_simp; try with_reducible rfl)
  try simp only [Act.put, List.setIfInBounds_toArray, List.set_cons_zero, List.set_cons_succ]
  refine HeldT.take (i := 5) (v := ?_) (by simp only [List.getElem?_toArray, List.getElem?_cons_succ, List.getElem?_cons_zero]; rfl) (by kernel_rfl) (by kernel_rfl) (by kernel_rfl) (by kernel_rfl) (by exact fun _ _ _ h => h) ?_ (by assumption) ?_
  rotate_left
  · refine Or.inl ⟨by rfl, ?_⟩
    (intro w hSw; (try dsimp only at hSw); go_simp; try with_reducible rfl)
  try simp only [Act.put, List.setIfInBounds_toArray, List.set_cons_zero, List.set_cons_succ]
  refine HeldT.take (i := 6) (v := ?_) (by simp only [List.getElem?_toArray, List.getElem?_cons_succ, List.getElem?_cons_zero]; rfl) (by kernel_rfl) (by kernel_rfl) (by kernel_rfl) (by kernel_rfl) (by exact fun _ _ _ h => h) ?_ (by assumption) ?_
  rotate_left
  · refine Or.inl ⟨by rfl, ?_⟩
    (intro w hSw; (try dsimp only at hSw); go_simp; try with_reducible rfl)
  try simp only [Act.put, List.setIfInBounds_toArray, List.set_cons_zero, List.set_cons_succ]
  refine HeldT.take (i := 7) (v := ?_) (by simp only [List.getElem?_toArray, List.getElem?_cons_succ, List.getElem?_cons_zero]; rfl) (by kernel_rfl) (by kernel_rfl) (by kernel_rfl) (by kernel_rfl) (by exact fun _ _ _ h => h) ?_ (by assumption) ?_
  rotate_left
  · refine Or.inl ⟨by rfl, ?_⟩
    (intro w hSw; (try dsimp only at hSw); go_simp; try with_reducible rfl)
  try simp only [Act.put, List.setIfInBounds_toArray, List.set_cons_zero, List.set_cons_succ]
  refine HeldT.take (i := 8) (v := ?_) (by simp only [List.getElem?_toArray, List.getElem?_cons_succ, List.getElem?_cons_zero]; rfl) (by kernel_rfl) (by kernel_rfl) (by kernel_rfl) (by kernel_rfl) (by exact fun _ _ _ h => h) ?_ (by assumption) ?_
  rotate_left
  · refine Or.inl ⟨by rfl, ?_⟩
    (intro w hSw; (try dsimp only at hSw); go_simp; try with_reducible rfl)
  try simp only [Act.put, List.setIfInBounds_toArray, List.set_cons_zero, List.set_cons_succ]
  refine HeldT.take (i := 9) (v := ?_) (by simp only [List.getElem?_toArray, List.getElem?_cons_succ, List.getElem?_cons_zero]; rfl) (by kernel_rfl) (by kernel_rfl) (by kernel_rfl) (by kernel_rfl) (by exact fun _ _ _ h => h) ?_ (by assumption) ?_
  rotate_left
  · refine Or.inl ⟨by rfl, ?_⟩
    (intro w hSw; (try dsimp only at hSw); go_simp; try with_reducible rfl)
  try simp only [Act.put, List.setIfInBounds_toArray, List.set_cons_zero, List.set_cons_succ]
  refine HeldT.take (i := 10) (v := ?_) (by simp only [List.getElem?_toArray, List.getElem?_cons_succ, List.getElem?_cons_zero]; rfl) (by kernel_rfl) (by kernel_rfl) (by kernel_rfl) (by kernel_rfl) (by exact fun _ _ _ h => h) ?_ (by assumption) ?_
  rotate_left
  · refine Or.inl ⟨by rfl, ?_⟩
    (intro w hSw; (try dsimp only at hSw); go_simp; try with_reducible rfl)
  try simp only [Act.put, List.setIfInBounds_toArray, List.set_cons_zero, List.set_cons_succ]
  refine HeldT.take (i := 11) (v := ?_) (by simp only [List.getElem?_toArray, List.getElem?_cons_succ, List.getElem?_cons_zero]; rfl) (by kernel_rfl) (by kernel_rfl) (by kernel_rfl) (by kernel_rfl) (by exact fun _ _ _ h => h) ?_ (by assumption) ?_
  rotate_left
  · refine Or.inl ⟨by rfl, ?_⟩
    (intro w hSw; (try dsimp only at hSw); go_simp; try with_reducible rfl)
  try simp only [Act.put, List.setIfInBounds_toArray, List.set_cons_zero, List.set_cons_succ]
  refine HeldT.take (i := 12) (v := ?_) (by simp only [List.getElem?_toArray, List.getElem?_cons_succ, List.getElem?_cons_zero]; rfl) (by kernel_rfl) (by kernel_rfl) (by kernel_rfl) (by kernel_rfl) (by exact fun _ _ _ h => h) ?_ (by assumption) ?_
  rotate_left
  · refine Or.inl ⟨by rfl, ?_⟩
    (intro w hSw; (try dsimp only at hSw); go_simp; try with_reducible rfl)
  try simp only [Act.put, List.setIfInBounds_toArray, List.set_cons_zero, List.set_cons_succ]
  refine HeldT.take (i := 13) (v := ?_) (by simp only [List.getElem?_toArray, List.getElem?_cons_succ, List.getElem?_cons_zero]; rfl) (by kernel_rfl) (by kernel_rfl) (by kernel_rfl) (by kernel_rfl) (by exact fun _ _ _ h => h) ?_ (by assumption) ?_
  rotate_left
  · refine Or.inl ⟨by rfl, ?_⟩
    (intro w hSw; (try dsimp only at hSw); go_simp; try with_reducible rfl)
  try simp only [Act.put, List.setIfInBounds_toArray, List.set_cons_zero, List.set_cons_succ]
  refine HeldT.take (i := 14) (v := ?_) (by simp only [List.getElem?_toArray, List.getElem?_cons_succ, List.getElem?_cons_zero]; rfl) (by kernel_rfl) (by kernel_rfl) (by kernel_rfl) (by kernel_rfl) (by exact fun _ _ _ h => h) ?_ (by assumption) ?_
  rotate_left
  · refine Or.inl ⟨by rfl, ?_⟩
    (intro w hSw; (try dsimp only at hSw); go_simp; try with_reducible rfl)
  try simp only [Act.put, List.setIfInBounds_toArray, List.set_cons_zero, List.set_cons_succ]
  refine HeldT.take (i := 15) (v := ?_) (by simp only [List.getElem?_toArray, List.getElem?_cons_succ, List.getElem?_cons_zero]; rfl) (by kernel_rfl) (by kernel_rfl) (by kernel_rfl) (by kernel_rfl) (by exact fun _ _ _ h => h) ?_ (by assumption) ?_
  rotate_left
  · refine Or.inl ⟨by rfl, ?_⟩
    (intro w hSw; (try dsimp only at hSw); go_simp; try with_reducible rfl)
  try simp only [Act.put, List.setIfInBounds_toArray, List.set_cons_zero, List.set_cons_succ]
  refine HeldT.take (i := 16) (v := ?_) (by simp only [List.getElem?_toArray, List.getElem?_cons_succ, List.getElem?_cons_zero]; rfl) (by kernel_rfl) (by kernel_rfl) (by kernel_rfl) (by kernel_rfl) (by exact fun _ _ _ h => h) ?_ (by assumption) ?_
  rotate_left
  · refine Or.inl ⟨by rfl, ?_⟩
    (intro w hSw; (try dsimp only at hSw); go_simp; try with_reducible rfl)
  try simp only [Act.put, List.setIfInBounds_toArray, List.set_cons_zero, List.set_cons_succ]
  refine HeldT.take (i := 17) (v := ?_) (by simp only [List.getElem?_toArray, List.getElem?_cons_succ, List.getElem?_cons_zero]; rfl) (by kernel_rfl) (by kernel_rfl) (by kernel_rfl) (by kernel_rfl) (by exact fun _ _ _ h => h) ?_ (by assumption) ?_
  rotate_left
  · refine Or.inl ⟨by rfl, ?_⟩
    (intro w hSw; (try dsimp only at hSw); go_simp; try with_reducible rfl)
  try simp only [Act.put, List.setIfInBounds_toArray, List.set_cons_zero, List.set_cons_succ]
  refine HeldT.one (i := 18) (by simp only [List.getElem?_toArray, List.getElem?_cons_succ, List.getElem?_cons_zero]; rfl) (by kernel_rfl) (by kernel_rfl) (fun K hK => ?_)
  go_simp
  ((refine (HI.out _).mono ?_); rintro e w1 ⟨rfl, rfl⟩)
  try go_wp2_with fail
  refine hK.out _ _ ?_ (fun hHeld => ?_)
  · (try dsimp only); first | done | (exact ⟨c0, c1, ci⟩)
  clear hK K
  try simp only [Act.put, List.setIfInBounds_toArray, List.set_cons_zero, List.set_cons_succ]
  refine HeldT.tail (by kernel_rfl) rfl ?_
  clear hHeld
  obtain ⟨wx, hwx⟩ : ∃ wx, wx = w.drew := ⟨_, rfl⟩
  have VX : Hid (EdV wx eb l k kept false false (some ⟨b, off, none⟩) cap B cap2) := hwx ▸ HV.out.same (Below.refl _ _).drew
  have HX : Hid (Ed wx eb l k kept false false) := ⟨_, _, _, _, VX.out⟩
  have KX : Hid (EdK eb w wx) := hwx ▸ (EdK.refl _ _).drewN 1
  have HE := Go.Lib.hid (ends_any eb l k kept k wx HX.out hl (by omega))
  rw [← hwx]
  have x0 := VX.out.c0
  have x1 := VX.out.c1
  have xf := VX.out.f 1
  have xz := VX.out.sz
  have HTO : Hid (endTo l k = endF l (if endB l k then k + 1 else k)) := rfl
  generalize endB l k = p at HE HTO
  clear hwx c0 c1 sz ci
  cases p
  · have HFR : Hid (endTo l k = endF l k) := HTO.out
    clear HTO
    go_wp2_with fail
    refine HE.out.mono ?_
    rintro e w1 ⟨rfl, rfl⟩
    go_wp2_with fail
    go_loop [4] (fun x => ∃ m : Nat, x = .int .i64 m ∧ m ≤ l.length ∧ Hid (endTo l k = endF l m)) (fun x => l.length - (intOf x).toNat)
    case atStart => exact ⟨k, by go_num, by omega, HFR.out⟩
    case round =>
      obtain ⟨m, rfl, hm, HF⟩ := hrel
      by_cases hml : m < l.length
      · have hb1 : (m : Int) < l.length := by omega
        have hst := endF_step l m hml
        have hf := HF.out
        rw [hst] at hf
        have HC := Go.Lib.hid (ends_any eb l k kept m wx HX.out hl (by omega))
        generalize endB l m = p2 at HC hf
        have HF2 := Go.Lib.hid hf
        clear hst hf
        cases p2
        · go_wp2_with fail
          refine HC.out.mono ?_
          rintro e w1 ⟨rfl, rfl⟩
          go_wp2_with fail
          go_round
          case rel => exact ⟨m + 1, by go_num, by omega, HF2.out⟩
          case measure => simp [intOf] <;> omega
        · go_wp2_with fail
          refine HC.out.mono ?_
          rintro e w1 ⟨rfl, rfl⟩
          go_wp2_with fail
          go_returns
          exact ⟨rfl, by rw [show endTo l k = m from HF2.out]; exact ⟨_, _, _, _, VX.out.at m⟩, KX.out.set _ _⟩
      · have hb1 : ¬ (m : Int) < l.length := by omega
        have HF2 : Hid (endTo l k = l.length) := HF.out.trans (endF_end l m (by omega))
        go_wp2_with fail
        go_returns
        exact ⟨rfl, by rw [HF2.out]; exact ⟨_, _, _, _, VX.out.at l.length⟩, KX.out.set _ _⟩
  · have HFR : Hid (endTo l k = endF l (k + 1)) := HTO.out
    clear HTO
    go_wp2_with fail
    refine HE.out.mono ?_
    rintro e w1 ⟨rfl, rfl⟩
    go_wp2_with fail
    go_loop [4] (fun x => ∃ m : Nat, x = .int .i64 m ∧ m ≤ l.length ∧ Hid (endTo l k = endF l m)) (fun x => l.length - (intOf x).toNat)
    case atStart => exact ⟨k + 1, by go_num, by omega, HFR.out⟩
    case round =>
      obtain ⟨m, rfl, hm, HF⟩ := hrel
      by_cases hml : m < l.length
      · have hb1 : (m : Int) < l.length := by omega
        have hst := endF_step l m hml
        have hf := HF.out
        rw [hst] at hf
        have HC := Go.Lib.hid (ends_any eb l k kept m wx HX.out hl (by omega))
        generalize endB l m = p2 at HC hf
        have HF2 := Go.Lib.hid hf
        clear hst hf
        cases p2
        · go_wp2_with fail
          refine HC.out.mono ?_
          rintro e w1 ⟨rfl, rfl⟩
          go_wp2_with fail
          go_round
          case rel => exact ⟨m + 1, by go_num, by omega, HF2.out⟩
          case measure => simp [intOf] <;> omega
        · go_wp2_with fail
          refine HC.out.mono ?_
          rintro e w1 ⟨rfl, rfl⟩
          go_wp2_with fail
          go_returns
          exact ⟨rfl, by rw [show endTo l k = m from HF2.out]; exact ⟨_, _, _, _, VX.out.at m⟩, KX.out.set _ _⟩
      · have hb1 : ¬ (m : Int) < l.length := by omega
        have HF2 : Hid (endTo l k = l.length) := HF.out.trans (endF_end l m (by omega))
        go_wp2_with fail
        go_returns
        exact ⟨rfl, by rw [HF2.out]; exact ⟨_, _, _, _, VX.out.at l.length⟩, KX.out.set _ _⟩

set_option maxRecDepth 100000 in
set_option maxHeartbeats 2000000 in
theorem do_ew (l : List Int) (k : Nat) (kept : List Int) (s : ByteArray) (n : Int) (f b : Bool) (l' : List Int) (k' : Nat) (op : Bool) (hT : ∀ eb w, Ed w eb l k kept false false → Calls Tryd.prog 28 #[.pointer (some ⟨eb, 0, none⟩)] w (TrPost eb l' k' kept op w)) : DoOk ⟨12, s, n, f, b⟩ l k kept (-1) l' k' kept false op := fun eb w h => by
  have H1 : Hid (Ed (w.alloc (.cells #[.int .i64 12, .string s, .int .i64 n, .bool f, .bool b] 30)) eb l k kept false false) := h.same ((Below.refl _ _).alloc (Nat.le_refl _) _)
  have K1 : Hid (EdK eb w (w.alloc (.cells #[.int .i64 12, .string s, .int .i64 n, .bool f, .bool b] 30))) := (EdK.refl _ _).alloc _
  obtain ⟨A, cap, B, cap2, hv⟩ := H1.out
  have c0 := hv.c0
  have c3 := hv.c3
  have c4 := hv.c4
  have HM : Hid (∀ W, Ed W eb l k kept false false → Calls Tryd.prog 20 #[.pointer (some ⟨eb, 0, none⟩), .agg #[.int .i64 12, .string s, .int .i64 n, .bool f, .bool b]] W (DoPost eb (-1) l' k' kept false op W)) := fun W hW => by
    have G1 : Hid (Ed (W.alloc (.cells #[.int .i64 12, .string s, .int .i64 n, .bool f, .bool b] 30)) eb l k kept false false) := hW.same ((Below.refl _ _).alloc (Nat.le_refl _) _)
    have L1 : Hid (EdK eb W (W.alloc (.cells #[.int .i64 12, .string s, .int .i64 n, .bool f, .bool b] 30))) := (EdK.refl _ _).alloc _
    obtain ⟨A, cap, B, cap2, hv⟩ := G1.out
    have c0 := hv.c0
    have HT := Go.Lib.hid (hT eb _ G1.out)
    clear hv hW h H1 K1 hT
    go_enter Tryd.func20, Tryd.ntmps20
    go_wp2_with fail
    refine HT.out.mono ?_
    rintro e w1 ⟨rfl, h1, o1⟩
    have HE := Go.Lib.hid h1
    have O1 : Hid (EdK eb W w1) := L1.out.trans o1
    clear h1 o1
    go_wp2_with fail
    go_returns
    exact ⟨rfl, HE.out, O1.out⟩
  clear h hv hT
  unfold Ky.val
  go_enter Tryd.func7, Tryd.ntmps7
  go_wp2_with fail
  refine (HM.out _ H1.out).mono ?_
  rintro e w1 ⟨rfl, h1, o1⟩
  have HE := Go.Lib.hid h1
  have O1 : Hid (EdK eb w w1) := K1.out.trans o1
  clear h1 o1
  go_wp2_with fail
  go_returns
  exact ⟨rfl, HE.out, O1.out⟩


theorem do_endword_end (l : List Int) (kept : List Int) (s : ByteArray) (n : Int) (f b : Bool) : DoOk ⟨12, s, n, f, b⟩ l l.length kept (-1) l l.length kept false false :=
  do_ew l l.length kept s n f b l l.length false fun eb w h => endword_end eb l kept w h
theorem do_endword_open (l : List Int) (k : Nat) (kept : List Int) (s : ByteArray) (n : Int) (f b : Bool) (hl : l.length ≤ 100000) (hk : k + 1 = l.length) (hw : isW (nth l k) = true) : DoOk ⟨12, s, n, f, b⟩ l k kept (-1) l k kept false true :=
  do_ew l k kept s n f b l k true fun eb w h => endword_open eb l k kept w h hl hk hw
theorem do_endword (l : List Int) (k : Nat) (kept : List Int) (s : ByteArray) (n : Int) (f b : Bool) (hl : l.length ≤ 100000) (hk : k < l.length) (hw : k + 1 < l.length ∨ isW (nth l k) = false) : DoOk ⟨12, s, n, f, b⟩ l k kept (-1) l (endTo l k) kept false false :=
  do_ew l k kept s n f b l (endTo l k) false fun eb w h => by
    by_cases e : k + 1 < l.length
    · exact endword_in eb l k kept w h hl e
    · exact endword_last eb l k kept w h hl (by omega) (hw.resolve_left e)
end Go.Proofs.YtoimdbmjpkmkfaaDoor
