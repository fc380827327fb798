/- padding.Writer's pad and Write. (Printed by gen/mkpadw.py.) -/
import Derived.Test.YtbibokkclejapaaDoorIndPadSpec
import Derived.Test.YtbibokkclejapaaDoorIndFlush
namespace Go.Proofs.YtbibokkclejapaaDoor
open Go.RowKit
set_option linter.unusedVariables false
set_option linter.unusedSimpArgs false
variable {X : Nat → Prop}

def PadPost (X : Nat → Prop) (B pw ab b q n : Nat) (l : List UInt8) (ln : Nat) (w : World) (e : Ending) (w' : World) : Prop :=
  e = .returned .nilIface ∧ PW X B pw ab b q n w' (l ++ List.replicate (n - ln) 32) ln ∧ IOn X B pw ab b w w'
set_option maxRecDepth 100000 in
set_option maxHeartbeats 1000000 in
theorem pad_any (B pw ab b q n : Nat) (l : List UInt8) (ln : Nat) (w : World) (h : PW X B pw ab b q n w l ln) (hn : n ≤ 1000) (hln : ln ≤ 900000) (hl : l.length + (n - ln) ≤ 900000) :
    Calls Tryd.prog 58 #[.pointer (some ⟨pw, 0, none⟩)] w (PadPost X B pw ab b q n l ln w) := by
  have HH := Go.Lib.hid h
  have q0 := h.c0
  have q1 := h.c1
  have q2 := h.c2
  have q9 := h.c9
  have hz := h.lt.1
  have hwn : IntKind.i64.wrap (n : Int) = n := wrap_small n (by omega) (by omega)
  have hwl : IntKind.u64.wrap (ln : Int) = ln := IntWalk.u64_in _ (by omega)
  have hnf : ∀ W, (binOp .neq 76 .nilFunc .nilFunc).run Tryd.prog W = .ok (.bool false) W := fun W => by kernel_rfl
  have HDR : Hid (PW X B pw ab b q n w.drew l ln ∧ IOn X B pw ab b w w.drew) := ⟨h.below (Below.refl _ _).drew, .of (Below.refl _ _).drew h.lt.2⟩
  have hsame : ∀ W, PW X B pw ab b q n W l ln → n - ln = 0 → PW X B pw ab b q n W (l ++ List.replicate (n - ln) 32) ln := fun W hW e => by rw [e]; simpa using hW
  have HSAME := Go.Lib.hid hsame
  by_cases hn0 : n = 0
  · subst hn0
    clear h hsame
    go_enter Tryd.func58, Tryd.ntmps58
    go_wp2_with fail
    refine region_held_tail 16 (S := (fun w' => w'.cell? ⟨pw, 0, none⟩ = some (.int .u64 0) ∧ w'.cell? ⟨pw, 9, none⟩ = some (.int .i64 (ln : Nat)))) (by kernel_rfl) (by kernel_rfl) ?_ (fun hHeld => ?_)
    · (try dsimp only); first | done | (exact ⟨q0, q9⟩)
    refine HeldT.take (i := 0) (v := ?_) (by simp only [List.getElem?_toArray, List.getElem?_cons_succ, List.getElem?_cons_zero]; rfl) (by kernel_rfl) (by kernel_rfl) (by kernel_rfl) (by kernel_rfl) (by exact fun _ _ _ h => h) ?_ (by assumption) ?_
    rotate_left
    · refine Or.inl ⟨by rfl, ?_⟩
      (intro w hSw; (try dsimp only at hSw); go_simp; try with_reducible rfl)
    try simp only [Act.put, List.setIfInBounds_toArray, List.set_cons_zero, List.set_cons_succ]
    refine HeldT.take (i := 1) (v := ?_) (by simp only [List.getElem?_toArray, List.getElem?_cons_succ, List.getElem?_cons_zero]; rfl) (by kernel_rfl) (by kernel_rfl) (by kernel_rfl) (by kernel_rfl) (by exact fun _ _ _ h => h) ?_ (by assumption) ?_
    rotate_left
    · refine Or.inl ⟨by rfl, ?_⟩
      (intro w hSw; (try dsimp only at hSw); go_simp; try with_reducible rfl)
    try simp only [Act.put, List.setIfInBounds_toArray, List.set_cons_zero, List.set_cons_succ]
    refine HeldT.take (i := 2) (v := ?_) (by simp only [List.getElem?_toArray, List.getElem?_cons_succ, List.getElem?_cons_zero]; rfl) (by kernel_rfl) (by kernel_rfl) (by kernel_rfl) (by kernel_rfl) (by exact fun _ _ _ h => h) ?_ (by assumption) ?_
    rotate_left
    · refine Or.inl ⟨by rfl, ?_⟩
      (intro w hSw; (try dsimp only at hSw); go_simp; try with_reducible rfl)
    try simp only [Act.put, List.setIfInBounds_toArray, List.set_cons_zero, List.set_cons_succ]
    refine HeldT.take (i := 3) (v := ?_) (by simp only [List.getElem?_toArray, List.getElem?_cons_succ, List.getElem?_cons_zero]; rfl) (by kernel_rfl) (by kernel_rfl) (by kernel_rfl) (by kernel_rfl) (by exact fun _ _ _ h => h) ?_ (by assumption) ?_
    rotate_left
    · refine Or.inl ⟨by rfl, ?_⟩
      (intro w hSw; (try dsimp only at hSw); go_simp; try with_reducible rfl)
    try simp only [Act.put, List.setIfInBounds_toArray, List.set_cons_zero, List.set_cons_succ]
    refine HeldT.take (i := 4) (v := ?_) (by simp only [List.getElem?_toArray, List.getElem?_cons_succ, List.getElem?_cons_zero]; rfl) (by kernel_rfl) (by kernel_rfl) (by kernel_rfl) (by kernel_rfl) (by exact fun _ _ _ h => h) ?_ (by assumption) ?_
    rotate_left
    · refine Or.inl ⟨by rfl, ?_⟩
      (intro w hSw; (try dsimp only at hSw); go_simp; try with_reducible rfl)
    try simp only [Act.put, List.setIfInBounds_toArray, List.set_cons_zero, List.set_cons_succ]
    refine HeldT.take (i := 5) (v := ?_) (by simp only [List.getElem?_toArray, List.getElem?_cons_succ, List.getElem?_cons_zero]; rfl) (by kernel_rfl) (by kernel_rfl) (by kernel_rfl) (by kernel_rfl) (by exact fun _ _ _ h => h) ?_ (by assumption) ?_
    rotate_left
    · refine Or.inl ⟨by rfl, ?_⟩
      (intro w hSw; (try dsimp only at hSw); go_simp; try with_reducible rfl)
    try simp only [Act.put, List.setIfInBounds_toArray, List.set_cons_zero, List.set_cons_succ]
    refine HeldT.take (i := 6) (v := undef) (by simp only [List.getElem?_toArray, List.getElem?_cons_succ, List.getElem?_cons_zero]; rfl) (by kernel_rfl) (by kernel_rfl) (by kernel_rfl) (by kernel_rfl) (by exact fun _ _ _ h => h) (Or.inr ⟨by rfl, by rfl⟩) (by assumption) ?_
    try simp only [Act.put, List.setIfInBounds_toArray, List.set_cons_zero, List.set_cons_succ]
    refine HeldT.take (i := 7) (v := undef) (by simp only [List.getElem?_toArray, List.getElem?_cons_succ, List.getElem?_cons_zero]; rfl) (by kernel_rfl) (by kernel_rfl) (by kernel_rfl) (by kernel_rfl) (by exact fun _ _ _ h => h) (Or.inr ⟨by rfl, by rfl⟩) (by assumption) ?_
    try simp only [Act.put, List.setIfInBounds_toArray, List.set_cons_zero, List.set_cons_succ]
    refine HeldT.take (i := 8) (v := undef) (by simp only [List.getElem?_toArray, List.getElem?_cons_succ, List.getElem?_cons_zero]; rfl) (by kernel_rfl) (by kernel_rfl) (by kernel_rfl) (by kernel_rfl) (by exact fun _ _ _ h => h) (Or.inr ⟨by rfl, by rfl⟩) (by assumption) ?_
    try simp only [Act.put, List.setIfInBounds_toArray, List.set_cons_zero, List.set_cons_succ]
    refine HeldT.take (i := 9) (v := undef) (by simp only [List.getElem?_toArray, List.getElem?_cons_succ, List.getElem?_cons_zero]; rfl) (by kernel_rfl) (by kernel_rfl) (by kernel_rfl) (by kernel_rfl) (by exact fun _ _ _ h => h) (Or.inr ⟨by rfl, by rfl⟩) (by assumption) ?_
    try simp only [Act.put, List.setIfInBounds_toArray, List.set_cons_zero, List.set_cons_succ]
    refine HeldT.take (i := 10) (v := undef) (by simp only [List.getElem?_toArray, List.getElem?_cons_succ, List.getElem?_cons_zero]; rfl) (by kernel_rfl) (by kernel_rfl) (by kernel_rfl) (by kernel_rfl) (by exact fun _ _ _ h => h) (Or.inr ⟨by rfl, by rfl⟩) (by assumption) ?_
    try simp only [Act.put, List.setIfInBounds_toArray, List.set_cons_zero, List.set_cons_succ]
    refine HeldT.take (i := 11) (v := undef) (by simp only [List.getElem?_toArray, List.getElem?_cons_succ, List.getElem?_cons_zero]; rfl) (by kernel_rfl) (by kernel_rfl) (by kernel_rfl) (by kernel_rfl) (by exact fun _ _ _ h => h) (Or.inr ⟨by rfl, by rfl⟩) (by assumption) ?_
    try simp only [Act.put, List.setIfInBounds_toArray, List.set_cons_zero, List.set_cons_succ]
    refine HeldT.take (i := 12) (v := undef) (by simp only [List.getElem?_toArray, List.getElem?_cons_succ, List.getElem?_cons_zero]; rfl) (by kernel_rfl) (by kernel_rfl) (by kernel_rfl) (by kernel_rfl) (by exact fun _ _ _ h => h) (Or.inr ⟨by rfl, by rfl⟩) (by assumption) ?_
    try simp only [Act.put, List.setIfInBounds_toArray, List.set_cons_zero, List.set_cons_succ]
    refine HeldT.take (i := 13) (v := undef) (by simp only [List.getElem?_toArray, List.getElem?_cons_succ, List.getElem?_cons_zero]; rfl) (by kernel_rfl) (by kernel_rfl) (by kernel_rfl) (by kernel_rfl) (by exact fun _ _ _ h => h) (Or.inr ⟨by rfl, by rfl⟩) (by assumption) ?_
    try simp only [Act.put, List.setIfInBounds_toArray, List.set_cons_zero, List.set_cons_succ]
    refine HeldT.take (i := 14) (v := undef) (by simp only [List.getElem?_toArray, List.getElem?_cons_succ, List.getElem?_cons_zero]; rfl) (by kernel_rfl) (by kernel_rfl) (by kernel_rfl) (by kernel_rfl) (by exact fun _ _ _ h => h) (Or.inr ⟨by rfl, by rfl⟩) (by assumption) ?_
    try simp only [Act.put, List.setIfInBounds_toArray, List.set_cons_zero, List.set_cons_succ]
    refine HeldT.take (i := 15) (v := undef) (by simp only [List.getElem?_toArray, List.getElem?_cons_succ, List.getElem?_cons_zero]; rfl) (by kernel_rfl) (by kernel_rfl) (by kernel_rfl) (by kernel_rfl) (by exact fun _ _ _ h => h) (Or.inr ⟨by rfl, by rfl⟩) (by assumption) ?_
    try simp only [Act.put, List.setIfInBounds_toArray, List.set_cons_zero, List.set_cons_succ]
    refine HeldT.tail (by kernel_rfl) rfl ?_
    go_wp2_with fail
    go_returns
    exact ⟨rfl, HSAME.out _ HDR.out.1 (by omega), HDR.out.2⟩
  have g0 : (0 : Int) < n := by omega
  have g0n : 0 < n := by omega
  by_cases hlt : n ≤ ln
  · have g1 : ¬ ((ln : Int) < n) := by omega
    have g1n : ¬ (ln < n) := by omega
    clear h hsame hn0
    go_enter Tryd.func58, Tryd.ntmps58
    go_wp2_with fail
    refine region_held_tail 16 (S := (fun w' => w'.cell? ⟨pw, 0, none⟩ = some (.int .u64 (n : Nat)) ∧ w'.cell? ⟨pw, 9, none⟩ = some (.int .i64 (ln : Nat)))) (by kernel_rfl) (by kernel_rfl) ?_ (fun hHeld => ?_)
    · (try dsimp only); first | done | (exact ⟨q0, q9⟩)
    refine HeldT.take (i := 0) (v := ?_) (by simp only [List.getElem?_toArray, List.getElem?_cons_succ, List.getElem?_cons_zero]; rfl) (by kernel_rfl) (by kernel_rfl) (by kernel_rfl) (by kernel_rfl) (by exact fun _ _ _ h => h) ?_ (by assumption) ?_
    rotate_left
    · refine Or.inl ⟨by rfl, ?_⟩
      (intro w hSw; (try dsimp only at hSw); go_simp; try with_reducible rfl)
    try simp only [Act.put, List.setIfInBounds_toArray, List.set_cons_zero, List.set_cons_succ]
    refine HeldT.take (i := 1) (v := ?_) (by simp only [List.getElem?_toArray, List.getElem?_cons_succ, List.getElem?_cons_zero]; rfl) (by kernel_rfl) (by kernel_rfl) (by kernel_rfl) (by kernel_rfl) (by exact fun _ _ _ h => h) ?_ (by assumption) ?_
    rotate_left
    · refine Or.inl ⟨by rfl, ?_⟩
      (intro w hSw; (try dsimp only at hSw); go_simp; try with_reducible rfl)
    try simp only [Act.put, List.setIfInBounds_toArray, List.set_cons_zero, List.set_cons_succ]
    refine HeldT.take (i := 2) (v := ?_) (by simp only [List.getElem?_toArray, List.getElem?_cons_succ, List.getElem?_cons_zero]; rfl) (by kernel_rfl) (by kernel_rfl) (by kernel_rfl) (by kernel_rfl) (by exact fun _ _ _ h => h) ?_ (by assumption) ?_
    rotate_left
    · refine Or.inl ⟨by rfl, ?_⟩
      (intro w hSw; (try dsimp only at hSw); go_simp; try with_reducible rfl)
    try simp only [Act.put, List.setIfInBounds_toArray, List.set_cons_zero, List.set_cons_succ]
    refine HeldT.take (i := 3) (v := ?_) (by simp only [List.getElem?_toArray, List.getElem?_cons_succ, List.getElem?_cons_zero]; rfl) (by kernel_rfl) (by kernel_rfl) (by kernel_rfl) (by kernel_rfl) (by exact fun _ _ _ h => h) ?_ (by assumption) ?_
    rotate_left
    · refine Or.inl ⟨by rfl, ?_⟩
      (intro w hSw; (try dsimp only at hSw); go_simp; try with_reducible rfl)
    try simp only [Act.put, List.setIfInBounds_toArray, List.set_cons_zero, List.set_cons_succ]
    refine HeldT.take (i := 4) (v := ?_) (by simp only [List.getElem?_toArray, List.getElem?_cons_succ, List.getElem?_cons_zero]; rfl) (by kernel_rfl) (by kernel_rfl) (by kernel_rfl) (by kernel_rfl) (by exact fun _ _ _ h => h) ?_ (by assumption) ?_
    rotate_left
    · refine Or.inl ⟨by rfl, ?_⟩
      (intro w hSw; (try dsimp only at hSw); go_simp; try with_reducible rfl)
    try simp only [Act.put, List.setIfInBounds_toArray, List.set_cons_zero, List.set_cons_succ]
    refine HeldT.take (i := 5) (v := ?_) (by simp only [List.getElem?_toArray, List.getElem?_cons_succ, List.getElem?_cons_zero]; rfl) (by kernel_rfl) (by kernel_rfl) (by kernel_rfl) (by kernel_rfl) (by exact fun _ _ _ h => h) ?_ (by assumption) ?_
    rotate_left
    · refine Or.inl ⟨by rfl, ?_⟩
      (intro w hSw; (try dsimp only at hSw); go_simp; try with_reducible rfl)
    try simp only [Act.put, List.setIfInBounds_toArray, List.set_cons_zero, List.set_cons_succ]
    refine HeldT.take (i := 6) (v := ?_) (by simp only [List.getElem?_toArray, List.getElem?_cons_succ, List.getElem?_cons_zero]; rfl) (by kernel_rfl) (by kernel_rfl) (by kernel_rfl) (by kernel_rfl) (by exact fun _ _ _ h => h) ?_ (by assumption) ?_
    rotate_left
    · refine Or.inl ⟨by rfl, ?_⟩
      (intro w hSw; (try dsimp only at hSw); go_simp; try with_reducible rfl)
    try simp only [Act.put, List.setIfInBounds_toArray, List.set_cons_zero, List.set_cons_succ]
    refine HeldT.take (i := 7) (v := ?_) (by simp only [List.getElem?_toArray, List.getElem?_cons_succ, List.getElem?_cons_zero]; rfl) (by kernel_rfl) (by kernel_rfl) (by kernel_rfl) (by kernel_rfl) (by exact fun _ _ _ h => h) ?_ (by assumption) ?_
    rotate_left
    · refine Or.inl ⟨by rfl, ?_⟩
      (intro w hSw; (try dsimp only at hSw); go_simp; try with_reducible rfl)
    try simp only [Act.put, List.setIfInBounds_toArray, List.set_cons_zero, List.set_cons_succ]
    refine HeldT.take (i := 8) (v := ?_) (by simp only [List.getElem?_toArray, List.getElem?_cons_succ, List.getElem?_cons_zero]; rfl) (by kernel_rfl) (by kernel_rfl) (by kernel_rfl) (by kernel_rfl) (by exact fun _ _ _ h => h) ?_ (by assumption) ?_
    rotate_left
    · refine Or.inl ⟨by rfl, ?_⟩
      (intro w hSw; (try dsimp only at hSw); go_simp; try with_reducible rfl)
    try simp only [Act.put, List.setIfInBounds_toArray, List.set_cons_zero, List.set_cons_succ]
    refine HeldT.take (i := 9) (v := ?_) (by simp only [List.getElem?_toArray, List.getElem?_cons_succ, List.getElem?_cons_zero]; rfl) (by kernel_rfl) (by kernel_rfl) (by kernel_rfl) (by kernel_rfl) (by exact fun _ _ _ h => h) ?_ (by assumption) ?_
    rotate_left
    · refine Or.inl ⟨by rfl, ?_⟩
      (intro w hSw; (try dsimp only at hSw); go_simp; try with_reducible rfl)
    try simp only [Act.put, List.setIfInBounds_toArray, List.set_cons_zero, List.set_cons_succ]
    refine HeldT.take (i := 10) (v := ?_) (by simp only [List.getElem?_toArray, List.getElem?_cons_succ, List.getElem?_cons_zero]; rfl) (by kernel_rfl) (by kernel_rfl) (by kernel_rfl) (by kernel_rfl) (by exact fun _ _ _ h => h) ?_ (by assumption) ?_
    rotate_left
    · refine Or.inl ⟨by rfl, ?_⟩
      (intro w hSw; (try dsimp only at hSw); go_simp; try with_reducible rfl)
    try simp only [Act.put, List.setIfInBounds_toArray, List.set_cons_zero, List.set_cons_succ]
    refine HeldT.take (i := 11) (v := ?_) (by simp only [List.getElem?_toArray, List.getElem?_cons_succ, List.getElem?_cons_zero]; rfl) (by kernel_rfl) (by kernel_rfl) (by kernel_rfl) (by kernel_rfl) (by exact fun _ _ _ h => h) ?_ (by assumption) ?_
    rotate_left
    · refine Or.inl ⟨by rfl, ?_⟩
      (intro w hSw; (try dsimp only at hSw); go_simp; try with_reducible rfl)
    try simp only [Act.put, List.setIfInBounds_toArray, List.set_cons_zero, List.set_cons_succ]
    refine HeldT.take (i := 12) (v := ?_) (by simp only [List.getElem?_toArray, List.getElem?_cons_succ, List.getElem?_cons_zero]; rfl) (by kernel_rfl) (by kernel_rfl) (by kernel_rfl) (by kernel_rfl) (by exact fun _ _ _ h => h) ?_ (by assumption) ?_
    rotate_left
    · refine Or.inl ⟨by rfl, ?_⟩
      (intro w hSw; (try dsimp only at hSw); go_simp; try with_reducible rfl)
    try simp only [Act.put, List.setIfInBounds_toArray, List.set_cons_zero, List.set_cons_succ]
    refine HeldT.take (i := 13) (v := ?_) (by simp only [List.getElem?_toArray, List.getElem?_cons_succ, List.getElem?_cons_zero]; rfl) (by kernel_rfl) (by kernel_rfl) (by kernel_rfl) (by kernel_rfl) (by exact fun _ _ _ h => h) ?_ (by assumption) ?_
    rotate_left
    · refine Or.inl ⟨by rfl, ?_⟩
      (intro w hSw; (try dsimp only at hSw); go_simp; try with_reducible rfl)
    try simp only [Act.put, List.setIfInBounds_toArray, List.set_cons_zero, List.set_cons_succ]
    refine HeldT.take (i := 14) (v := ?_) (by simp only [List.getElem?_toArray, List.getElem?_cons_succ, List.getElem?_cons_zero]; rfl) (by kernel_rfl) (by kernel_rfl) (by kernel_rfl) (by kernel_rfl) (by exact fun _ _ _ h => h) ?_ (by assumption) ?_
    rotate_left
    · refine Or.inl ⟨by rfl, ?_⟩
      (intro w hSw; (try dsimp only at hSw); go_simp; try with_reducible rfl)
    try simp only [Act.put, List.setIfInBounds_toArray, List.set_cons_zero, List.set_cons_succ]
    refine HeldT.take (i := 15) (v := ?_) (by simp only [List.getElem?_toArray, List.getElem?_cons_succ, List.getElem?_cons_zero]; rfl) (by kernel_rfl) (by kernel_rfl) (by kernel_rfl) (by kernel_rfl) (by exact fun _ _ _ h => h) ?_ (by assumption) ?_
    rotate_left
    · refine Or.inl ⟨by rfl, ?_⟩
      (intro w hSw; (try dsimp only at hSw); go_simp; try with_reducible rfl)
    try simp only [Act.put, List.setIfInBounds_toArray, List.set_cons_zero, List.set_cons_succ]
    refine HeldT.tail (by kernel_rfl) rfl ?_
    go_wp2_with fail
    go_returns
    exact ⟨rfl, HSAME.out _ HDR.out.1 (by omega), HDR.out.2⟩
  have g1 : (ln : Int) < n := by omega
  have g1n : ln < n := by omega
  obtain ⟨m, hm⟩ : ∃ m, m = n - ln := ⟨_, rfl⟩
  have hmm : (n : Int) - (ln : Int) = (m : Int) := by omega
  have hwm : IntKind.i64.wrap (m : Int) = m := wrap_small m (by omega) (by omega)
  obtain ⟨p, hp⟩ : ∃ p, p = List.replicate m (32 : UInt8) := ⟨_, rfl⟩
  have HRP : Hid (∀ W, Calls Tryd.prog 54 #[.string ⟨#[32]⟩, .int .i64 (m : Nat)] W fun e w' => e = .returned (.string (tx p)) ∧ Below W.heap.size W w') := fun W => by
    rw [hp]; exact blanks_any m W (by omega)
  have HPP : Hid (∀ c ∈ p, c.toNat < 128 ∧ c.toNat ≠ 27) := fun c hc => by
    rw [hp] at hc
    rw [List.eq_of_mem_replicate hc]; decide
  have HLP : Hid (l.length + p.length ≤ 900000) := by
    refine Go.Lib.hid ?_
    rw [hp, List.length_replicate]; omega
  have hpost : PadPost X B pw ab b q n l ln w = fun e w' => e = .returned .nilIface ∧ PW X B pw ab b q n w' (l ++ p) ln ∧ IOn X B pw ab b w w' := by rw [hp, hm]; rfl
  rw [hpost]
  have b0 : Below w.heap.size w w.drew.drew := (Below.refl _ _).drew.drew
  clear h hsame hn0 hm hp hpost hlt hln hl
  go_enter Tryd.func58, Tryd.ntmps58
  go_wp2_with fail
  refine region_held_tail 16 (S := (fun w' => w'.cell? ⟨pw, 0, none⟩ = some (.int .u64 (n : Nat)) ∧ w'.cell? ⟨pw, 9, none⟩ = some (.int .i64 (ln : Nat)))) (by kernel_rfl) (by kernel_rfl) ?_ (fun hHeld => ?_)
  · (try dsimp only); first | done | (exact ⟨q0, q9⟩)
  refine HeldT.take (i := 0) (v := ?_) (by simp only [List.getElem?_toArray, List.getElem?_cons_succ, List.getElem?_cons_zero]; rfl) (by kernel_rfl) (by kernel_rfl) (by kernel_rfl) (by kernel_rfl) (by exact fun _ _ _ h => h) ?_ (by assumption) ?_
  rotate_left
  · refine Or.inl ⟨by rfl, ?_⟩
    (intro w hSw; (try dsimp only at hSw); go_simp; try with_reducible rfl)
  try simp only [Act.put, List.setIfInBounds_toArray, List.set_cons_zero, List.set_cons_succ]
  refine HeldT.take (i := 1) (v := ?_) (by simp only [List.getElem?_toArray, List.getElem?_cons_succ, List.getElem?_cons_zero]; rfl) (by kernel_rfl) (by kernel_rfl) (by kernel_rfl) (by kernel_rfl) (by exact fun _ _ _ h => h) ?_ (by assumption) ?_
  rotate_left
  · refine Or.inl ⟨by rfl, ?_⟩
    (intro w hSw; (try dsimp only at hSw); go_simp; try with_reducible rfl)
  try simp only [Act.put, List.setIfInBounds_toArray, List.set_cons_zero, List.set_cons_succ]
  refine HeldT.take (i := 2) (v := ?_) (by simp only [List.getElem?_toArray, List.getElem?_cons_succ, List.getElem?_cons_zero]; rfl) (by kernel_rfl) (by kernel_rfl) (by kernel_rfl) (by kernel_rfl) (by exact fun _ _ _ h => h) ?_ (by assumption) ?_
  rotate_left
  · refine Or.inl ⟨by rfl, ?_⟩
    (intro w hSw; (try dsimp only at hSw); go_simp; try with_reducible rfl)
  try simp only [Act.put, List.setIfInBounds_toArray, List.set_cons_zero, List.set_cons_succ]
  refine HeldT.take (i := 3) (v := ?_) (by simp only [List.getElem?_toArray, List.getElem?_cons_succ, List.getElem?_cons_zero]; rfl) (by kernel_rfl) (by kernel_rfl) (by kernel_rfl) (by kernel_rfl) (by exact fun _ _ _ h => h) ?_ (by assumption) ?_
  rotate_left
  · refine Or.inl ⟨by rfl, ?_⟩
    (intro w hSw; (try dsimp only at hSw); go_simp; try with_reducible rfl)
  try simp only [Act.put, List.setIfInBounds_toArray, List.set_cons_zero, List.set_cons_succ]
  refine HeldT.take (i := 4) (v := ?_) (by simp only [List.getElem?_toArray, List.getElem?_cons_succ, List.getElem?_cons_zero]; rfl) (by kernel_rfl) (by kernel_rfl) (by kernel_rfl) (by kernel_rfl) (by exact fun _ _ _ h => h) ?_ (by assumption) ?_
  rotate_left
  · refine Or.inl ⟨by rfl, ?_⟩
    (intro w hSw; (try dsimp only at hSw); go_simp; try with_reducible rfl)
  try simp only [Act.put, List.setIfInBounds_toArray, List.set_cons_zero, List.set_cons_succ]
  refine HeldT.take (i := 5) (v := ?_) (by simp only [List.getElem?_toArray, List.getElem?_cons_succ, List.getElem?_cons_zero]; rfl) (by kernel_rfl) (by kernel_rfl) (by kernel_rfl) (by kernel_rfl) (by exact fun _ _ _ h => h) ?_ (by assumption) ?_
  rotate_left
  · refine Or.inl ⟨by rfl, ?_⟩
    (intro w hSw; (try dsimp only at hSw); go_simp; try with_reducible rfl)
  try simp only [Act.put, List.setIfInBounds_toArray, List.set_cons_zero, List.set_cons_succ]
  refine HeldT.take (i := 6) (v := ?_) (by simp only [List.getElem?_toArray, List.getElem?_cons_succ, List.getElem?_cons_zero]; rfl) (by kernel_rfl) (by kernel_rfl) (by kernel_rfl) (by kernel_rfl) (by exact fun _ _ _ h => h) ?_ (by assumption) ?_
  rotate_left
  · refine Or.inl ⟨by rfl, ?_⟩
    (intro w hSw; (try dsimp only at hSw); go_simp; try with_reducible rfl)
  try simp only [Act.put, List.setIfInBounds_toArray, List.set_cons_zero, List.set_cons_succ]
  refine HeldT.take (i := 7) (v := ?_) (by simp only [List.getElem?_toArray, List.getElem?_cons_succ, List.getElem?_cons_zero]; rfl) (by kernel_rfl) (by kernel_rfl) (by kernel_rfl) (by kernel_rfl) (by exact fun _ _ _ h => h) ?_ (by assumption) ?_
  rotate_left
  · refine Or.inl ⟨by rfl, ?_⟩
    (intro w hSw; (try dsimp only at hSw); go_simp; try with_reducible rfl)
  try simp only [Act.put, List.setIfInBounds_toArray, List.set_cons_zero, List.set_cons_succ]
  refine HeldT.take (i := 8) (v := ?_) (by simp only [List.getElem?_toArray, List.getElem?_cons_succ, List.getElem?_cons_zero]; rfl) (by kernel_rfl) (by kernel_rfl) (by kernel_rfl) (by kernel_rfl) (by exact fun _ _ _ h => h) ?_ (by assumption) ?_
  rotate_left
  · refine Or.inl ⟨by rfl, ?_⟩
    (intro w hSw; (try dsimp only at hSw); go_simp; try with_reducible rfl)
  try simp only [Act.put, List.setIfInBounds_toArray, List.set_cons_zero, List.set_cons_succ]
  refine HeldT.take (i := 9) (v := ?_) (by simp only [List.getElem?_toArray, List.getElem?_cons_succ, List.getElem?_cons_zero]; rfl) (by kernel_rfl) (by kernel_rfl) (by kernel_rfl) (by kernel_rfl) (by exact fun _ _ _ h => h) ?_ (by assumption) ?_
  rotate_left
  · refine Or.inl ⟨by rfl, ?_⟩
    (intro w hSw; (try dsimp only at hSw); go_simp; try with_reducible rfl)
  try simp only [Act.put, List.setIfInBounds_toArray, List.set_cons_zero, List.set_cons_succ]
  refine HeldT.take (i := 10) (v := ?_) (by simp only [List.getElem?_toArray, List.getElem?_cons_succ, List.getElem?_cons_zero]; rfl) (by kernel_rfl) (by kernel_rfl) (by kernel_rfl) (by kernel_rfl) (by exact fun _ _ _ h => h) ?_ (by assumption) ?_
  rotate_left
  · refine Or.inl ⟨by rfl, ?_⟩
    (intro w hSw; (try dsimp only at hSw); go_simp; try with_reducible rfl)
  try simp only [Act.put, List.setIfInBounds_toArray, List.set_cons_zero, List.set_cons_succ]
  refine HeldT.take (i := 11) (v := ?_) (by simp only [List.getElem?_toArray, List.getElem?_cons_succ, List.getElem?_cons_zero]; rfl) (by kernel_rfl) (by kernel_rfl) (by kernel_rfl) (by kernel_rfl) (by exact fun _ _ _ h => h) ?_ (by assumption) ?_
  rotate_left
  · refine Or.inl ⟨by rfl, ?_⟩
    (intro w hSw; (try dsimp only at hSw); go_simp; try with_reducible rfl)
  try simp only [Act.put, List.setIfInBounds_toArray, List.set_cons_zero, List.set_cons_succ]
  refine HeldT.take (i := 12) (v := ?_) (by simp only [List.getElem?_toArray, List.getElem?_cons_succ, List.getElem?_cons_zero]; rfl) (by kernel_rfl) (by kernel_rfl) (by kernel_rfl) (by kernel_rfl) (by exact fun _ _ _ h => h) ?_ (by assumption) ?_
  rotate_left
  · refine Or.inl ⟨by rfl, ?_⟩
    (intro w hSw; (try dsimp only at hSw); go_simp; try with_reducible rfl)
  try simp only [Act.put, List.setIfInBounds_toArray, List.set_cons_zero, List.set_cons_succ]
  refine HeldT.take (i := 13) (v := ?_) (by simp only [List.getElem?_toArray, List.getElem?_cons_succ, List.getElem?_cons_zero]; rfl) (by kernel_rfl) (by kernel_rfl) (by kernel_rfl) (by kernel_rfl) (by exact fun _ _ _ h => h) ?_ (by assumption) ?_
  rotate_left
  · refine Or.inl ⟨by rfl, ?_⟩
    (intro w hSw; (try dsimp only at hSw); go_simp; try with_reducible rfl)
  try simp only [Act.put, List.setIfInBounds_toArray, List.set_cons_zero, List.set_cons_succ]
  refine HeldT.take (i := 14) (v := ?_) (by simp only [List.getElem?_toArray, List.getElem?_cons_succ, List.getElem?_cons_zero]; rfl) (by kernel_rfl) (by kernel_rfl) (by kernel_rfl) (by kernel_rfl) (by exact fun _ _ _ h => h) ?_ (by assumption) ?_
  rotate_left
  · refine Or.inl ⟨by rfl, ?_⟩
    (intro w hSw; (try dsimp only at hSw); go_simp; try with_reducible rfl)
  try simp only [Act.put, List.setIfInBounds_toArray, List.set_cons_zero, List.set_cons_succ]
  refine HeldT.take (i := 15) (v := ?_) (by simp only [List.getElem?_toArray, List.getElem?_cons_succ, List.getElem?_cons_zero]; rfl) (by kernel_rfl) (by kernel_rfl) (by kernel_rfl) (by kernel_rfl) (by exact fun _ _ _ h => h) ?_ (by assumption) ?_
  rotate_left
  · refine Or.inl ⟨by rfl, ?_⟩
    (intro w hSw; (try dsimp only at hSw); go_simp; try with_reducible rfl)
  try simp only [Act.put, List.setIfInBounds_toArray, List.set_cons_zero, List.set_cons_succ]
  refine HeldT.tail (by kernel_rfl) rfl ?_
  go_wp2_with fail
  refine region_held_tail 21 (S := (fun w' => w'.cell? ⟨pw, 0, none⟩ = some (.int .u64 (n : Nat)) ∧ w'.cell? ⟨pw, 2, none⟩ = some (.pointer (some ⟨ab, 0, none⟩)) ∧ w'.cell? ⟨pw, 9, none⟩ = some (.int .i64 (ln : Nat)))) (by kernel_rfl) (by kernel_rfl) ?_ (fun hHeld => ?_)
  · (try dsimp only); first | done | (first | exact ⟨q0, q2, q9⟩ | exact ⟨d0, d2, d9⟩ | exact ⟨e0, e2, e9⟩ | exact ⟨g0, g2, g9⟩)
  refine HeldT.take (i := 0) (v := ?_) (by simp only [List.getElem?_toArray, List.getElem?_cons_succ, List.getElem?_cons_zero]; rfl) (by kernel_rfl) (by kernel_rfl) (by kernel_rfl) (by kernel_rfl) (by exact fun _ _ _ h => h) ?_ (by assumption) ?_
  rotate_left
  · refine Or.inl ⟨by rfl, ?_⟩
    (intro w hSw; (try dsimp only at hSw); go_simp; try with_reducible rfl)
  try simp only [Act.put, List.setIfInBounds_toArray, List.set_cons_zero, List.set_cons_succ]
  refine HeldT.take (i := 1) (v := ?_) (by simp only [List.getElem?_toArray, List.getElem?_cons_succ, List.getElem?_cons_zero]; rfl) (by kernel_rfl) (by kernel_rfl) (by kernel_rfl) (by kernel_rfl) (by exact fun _ _ _ h => h) ?_ (by assumption) ?_
  rotate_left
  · refine Or.inl ⟨by rfl, ?_⟩
    (intro w hSw; (try dsimp only at hSw); go_simp; try with_reducible rfl)
  try simp only [Act.put, List.setIfInBounds_toArray, List.set_cons_zero, List.set_cons_succ]
  refine HeldT.take (i := 2) (v := ?_) (by simp only [List.getElem?_toArray, List.getElem?_cons_succ, List.getElem?_cons_zero]; rfl) (by kernel_rfl) (by kernel_rfl) (by kernel_rfl) (by kernel_rfl) (by exact fun _ _ _ h => h) ?_ (by assumption) ?_
  rotate_left
  · refine Or.inl ⟨by rfl, ?_⟩
    (intro w hSw; (try dsimp only at hSw); go_simp; try with_reducible rfl)
  try simp only [Act.put, List.setIfInBounds_toArray, List.set_cons_zero, List.set_cons_succ]
  refine HeldT.take (i := 3) (v := ?_) (by simp only [List.getElem?_toArray, List.getElem?_cons_succ, List.getElem?_cons_zero]; rfl) (by kernel_rfl) (by kernel_rfl) (by kernel_rfl) (by kernel_rfl) (by exact fun _ _ _ h => h) ?_ (by assumption) ?_
  rotate_left
  · refine Or.inl ⟨by rfl, ?_⟩
    (intro w hSw; (try dsimp only at hSw); go_simp; try with_reducible rfl)
  try simp only [Act.put, List.setIfInBounds_toArray, List.set_cons_zero, List.set_cons_succ]
  refine HeldT.take (i := 4) (v := ?_) (by simp only [List.getElem?_toArray, List.getElem?_cons_succ, List.getElem?_cons_zero]; rfl) (by kernel_rfl) (by kernel_rfl) (by kernel_rfl) (by kernel_rfl) (by exact fun _ _ _ h => h) ?_ (by assumption) ?_
  rotate_left
  · refine Or.inl ⟨by rfl, ?_⟩
    (intro w hSw; (try dsimp only at hSw); go_simp; try with_reducible rfl)
  try simp only [Act.put, List.setIfInBounds_toArray, List.set_cons_zero, List.set_cons_succ]
  refine HeldT.take (i := 5) (v := ?_) (by simp only [List.getElem?_toArray, List.getElem?_cons_succ, List.getElem?_cons_zero]; rfl) (by kernel_rfl) (by kernel_rfl) (by kernel_rfl) (by kernel_rfl) (by exact fun _ _ _ h => h) ?_ (by assumption) ?_
  rotate_left
  · refine Or.inl ⟨by rfl, ?_⟩
    (intro w hSw; (try dsimp only at hSw); go_simp; try with_reducible rfl)
  try simp only [Act.put, List.setIfInBounds_toArray, List.set_cons_zero, List.set_cons_succ]
  refine HeldT.take (i := 6) (v := ?_) (by simp only [List.getElem?_toArray, List.getElem?_cons_succ, List.getElem?_cons_zero]; rfl) (by kernel_rfl) (by kernel_rfl) (by kernel_rfl) (by kernel_rfl) (by exact fun _ _ _ h => h) ?_ (by assumption) ?_
  rotate_left
  · refine Or.inl ⟨by rfl, ?_⟩
    (intro w hSw; (try dsimp only at hSw); go_simp; try with_reducible rfl)
  try simp only [Act.put, List.setIfInBounds_toArray, List.set_cons_zero, List.set_cons_succ]
  refine HeldT.take (i := 7) (v := ?_) (by simp only [List.getElem?_toArray, List.getElem?_cons_succ, List.getElem?_cons_zero]; rfl) (by kernel_rfl) (by kernel_rfl) (by kernel_rfl) (by kernel_rfl) (by exact fun _ _ _ h => h) ?_ (by assumption) ?_
  rotate_left
  · refine Or.inl ⟨by rfl, ?_⟩
    (intro w hSw; (try dsimp only at hSw); go_simp; try with_reducible rfl)
  try simp only [Act.put, List.setIfInBounds_toArray, List.set_cons_zero, List.set_cons_succ]
  refine HeldT.take (i := 8) (v := ?_) (by simp only [List.getElem?_toArray, List.getElem?_cons_succ, List.getElem?_cons_zero]; rfl) (by kernel_rfl) (by kernel_rfl) (by kernel_rfl) (by kernel_rfl) (by exact fun _ _ _ h => h) ?_ (by assumption) ?_
  rotate_left
  · refine Or.inl ⟨by rfl, ?_⟩
    (intro w hSw; (try dsimp only at hSw); go_simp; try with_reducible rfl)
  try simp only [Act.put, List.setIfInBounds_toArray, List.set_cons_zero, List.set_cons_succ]
  refine HeldT.take (i := 9) (v := ?_) (by simp only [List.getElem?_toArray, List.getElem?_cons_succ, List.getElem?_cons_zero]; rfl) (by kernel_rfl) (by kernel_rfl) (by kernel_rfl) (by kernel_rfl) (by exact fun _ _ _ h => h) ?_ (by assumption) ?_
  rotate_left
  · refine Or.inl ⟨by rfl, ?_⟩
    (intro w hSw; (try dsimp only at hSw); go_simp; try with_reducible rfl)
  try simp only [Act.put, List.setIfInBounds_toArray, List.set_cons_zero, List.set_cons_succ]
  refine HeldT.take (i := 10) (v := ?_) (by simp only [List.getElem?_toArray, List.getElem?_cons_succ, List.getElem?_cons_zero]; rfl) (by kernel_rfl) (by kernel_rfl) (by kernel_rfl) (by kernel_rfl) (by exact fun _ _ _ h => h) ?_ (by assumption) ?_
  rotate_left
  · refine Or.inl ⟨by rfl, ?_⟩
    (intro w hSw; (try dsimp only at hSw); go_simp; try with_reducible rfl)
  try simp only [Act.put, List.setIfInBounds_toArray, List.set_cons_zero, List.set_cons_succ]
  refine HeldT.take (i := 11) (v := ?_) (by simp only [List.getElem?_toArray, List.getElem?_cons_succ, List.getElem?_cons_zero]; rfl) (by kernel_rfl) (by kernel_rfl) (by kernel_rfl) (by kernel_rfl) (by exact fun _ _ _ h => h) ?_ (by assumption) ?_
  rotate_left
  · refine Or.inl ⟨by rfl, ?_⟩
    (intro w hSw; (try dsimp only at hSw); go_simp; try with_reducible rfl)
  try simp only [Act.put, List.setIfInBounds_toArray, List.set_cons_zero, List.set_cons_succ]
  refine HeldT.take (i := 12) (v := ?_) (by simp only [List.getElem?_toArray, List.getElem?_cons_succ, List.getElem?_cons_zero]; rfl) (by kernel_rfl) (by kernel_rfl) (by kernel_rfl) (by kernel_rfl) (by exact fun _ _ _ h => h) ?_ (by assumption) ?_
  rotate_left
  · refine Or.inl ⟨by rfl, ?_⟩
    (intro w hSw; (try dsimp only at hSw); go_simp; try with_reducible rfl)
  try simp only [Act.put, List.setIfInBounds_toArray, List.set_cons_zero, List.set_cons_succ]
  refine HeldT.take (i := 13) (v := ?_) (by simp only [List.getElem?_toArray, List.getElem?_cons_succ, List.getElem?_cons_zero]; rfl) (by kernel_rfl) (by kernel_rfl) (by kernel_rfl) (by kernel_rfl) (by exact fun _ _ _ h => h) ?_ (by assumption) ?_
  rotate_left
  · refine Or.inl ⟨by rfl, ?_⟩
    (intro w hSw; (try dsimp only at hSw); go_simp; try with_reducible rfl)
  try simp only [Act.put, List.setIfInBounds_toArray, List.set_cons_zero, List.set_cons_succ]
  refine HeldT.one (i := 14) (by simp only [List.getElem?_toArray, List.getElem?_cons_succ, List.getElem?_cons_zero]; rfl) (by kernel_rfl) (by kernel_rfl) (fun K hK => ?_)
  go_simp
  ((refine (HRP.out _).mono ?_); rintro e w9 ⟨rfl, b9⟩; obtain ⟨c9, W9, hcv9, bm9, t9⟩ := made_tx p w9; have I9 := HH.out.below (b0.trans b9); have I10 := I9.below bm9; have d2 := I9.c2; have d0 := I9.c0; have d9 := I9.c9; have e2 := I10.c2; have e0 := I10.c0; have e9 := I10.c9; have O9 := Go.Lib.hid ((IOn.of (X := X) (iw := pw) (ab := ab) (b := b) (b0.trans b9) HH.out.lt.2).trans (IOn.of bm9 I9.lt.2)); have HA := Go.Lib.hid (aw_write B ab b q l p (some ⟨w9.heap.size, 0, none⟩) c9 W9 I10.sw t9 HPP.out HLP.out); have T := Go.Lib.hid I10; clear I9 I10 bm9 t9 b9)
  try go_wp2_with fail
  refine hK.out _ _ ?_ (fun hHeld => ?_)
  · (try dsimp only); first | done | (first | exact ⟨q0, q2, q9⟩ | exact ⟨d0, d2, d9⟩ | exact ⟨e0, e2, e9⟩ | exact ⟨g0, g2, g9⟩)
  clear hK K
  try simp only [Act.put, List.setIfInBounds_toArray, List.set_cons_zero, List.set_cons_succ]
  refine HeldT.one (i := 15) (by simp only [List.getElem?_toArray, List.getElem?_cons_succ, List.getElem?_cons_zero]; rfl) (by kernel_rfl) (by kernel_rfl) (fun K hK => ?_)
  go_simp
  refine hK.out _ _ ?_ (fun hHeld => ?_)
  · (try dsimp only); first | done | (first | exact ⟨q0, q2, q9⟩ | exact ⟨d0, d2, d9⟩ | exact ⟨e0, e2, e9⟩ | exact ⟨g0, g2, g9⟩)
  clear hK K
  try simp only [Act.put, List.setIfInBounds_toArray, List.set_cons_zero, List.set_cons_succ]
  refine HeldT.one (i := 16) (by simp only [List.getElem?_toArray, List.getElem?_cons_succ, List.getElem?_cons_zero]; rfl) (by kernel_rfl) (by kernel_rfl) (fun K hK => ?_)
  go_simp
  ((refine HA.out.mono ?_); rintro e w11 ⟨rfl, s11, o11⟩; have I11 := T.out.on s11 o11; have g2 := I11.c2; have g0 := I11.c0; have g9 := I11.c9; have J11 := Go.Lib.hid (And.intro I11 (O9.out.trans o11.iOn)); clear I11 s11 o11)
  try go_wp2_with fail
  refine hK.out _ _ ?_ (fun hHeld => ?_)
  · (try dsimp only); first | done | (first | exact ⟨q0, q2, q9⟩ | exact ⟨d0, d2, d9⟩ | exact ⟨e0, e2, e9⟩ | exact ⟨g0, g2, g9⟩)
  clear hK K
  try simp only [Act.put, List.setIfInBounds_toArray, List.set_cons_zero, List.set_cons_succ]
  refine HeldT.take (i := 17) (v := ?_) (by simp only [List.getElem?_toArray, List.getElem?_cons_succ, List.getElem?_cons_zero]; rfl) (by kernel_rfl) (by kernel_rfl) (by kernel_rfl) (by kernel_rfl) (by exact fun _ _ _ h => h) ?_ (by assumption) ?_
  rotate_left
  · refine Or.inl ⟨by rfl, ?_⟩
    (intro w hSw; (try dsimp only at hSw); go_simp; try with_reducible rfl)
  try simp only [Act.put, List.setIfInBounds_toArray, List.set_cons_zero, List.set_cons_succ]
  refine HeldT.take (i := 18) (v := ?_) (by simp only [List.getElem?_toArray, List.getElem?_cons_succ, List.getElem?_cons_zero]; rfl) (by kernel_rfl) (by kernel_rfl) (by kernel_rfl) (by kernel_rfl) (by exact fun _ _ _ h => h) ?_ (by assumption) ?_
  rotate_left
  · refine Or.inl ⟨by rfl, ?_⟩
    (intro w hSw; (try dsimp only at hSw); go_simp; try with_reducible rfl)
  try simp only [Act.put, List.setIfInBounds_toArray, List.set_cons_zero, List.set_cons_succ]
  refine HeldT.take (i := 19) (v := ?_) (by simp only [List.getElem?_toArray, List.getElem?_cons_succ, List.getElem?_cons_zero]; rfl) (by kernel_rfl) (by kernel_rfl) (by kernel_rfl) (by kernel_rfl) (by exact fun _ _ _ h => h) ?_ (by assumption) ?_
  rotate_left
  · refine Or.inl ⟨by rfl, ?_⟩
    (intro w hSw; (try dsimp only at hSw); go_simp; try with_reducible rfl)
  try simp only [Act.put, List.setIfInBounds_toArray, List.set_cons_zero, List.set_cons_succ]
  refine HeldT.take (i := 20) (v := ?_) (by simp only [List.getElem?_toArray, List.getElem?_cons_succ, List.getElem?_cons_zero]; rfl) (by kernel_rfl) (by kernel_rfl) (by kernel_rfl) (by kernel_rfl) (by exact fun _ _ _ h => h) ?_ (by assumption) ?_
  rotate_left
  · refine Or.inl ⟨by rfl, ?_⟩
    (intro w hSw; (try dsimp only at hSw); go_simp; try with_reducible rfl)
  try simp only [Act.put, List.setIfInBounds_toArray, List.set_cons_zero, List.set_cons_succ]
  refine HeldT.tail (by kernel_rfl) rfl ?_
  go_wp2_with fail
  go_returns
  exact ⟨rfl, J11.out.1, J11.out.2⟩

def PwPost (X : Nat → Prop) (B pw ab b q n : Nat) (l bs : List UInt8) (ln : Nat) (w : World) (e : Ending) (w' : World) : Prop :=
  e = .returned (.tuple #[.int .i64 (bs.length : Nat), .nilIface]) ∧ PW X B pw ab b q n w' (l ++ padP n ln bs) (lnL ln bs) ∧ IOn X B pw ab b w w'
theorem padP_append (n : Nat) (y : List UInt8) : ∀ (x : List UInt8) (ln : Nat), padP n ln (x ++ y) = padP n ln x ++ padP n (lnL ln x) y
  | [], ln => by simp [padP, lnL]
  | d :: t, ln => by
    by_cases h : d = 10
    · have := padP_append n y t 0
      simp only [List.cons_append, padP, lnL, if_pos h, this, List.append_assoc]
    · have := padP_append n y t (ln + 1)
      simp only [List.cons_append, padP, lnL, if_neg h, this]
theorem padP_take (n : Nat) (bs : List UInt8) (ln : Nat) (k : Nat) (hk : k < bs.length) : (padP n ln (bs.take k)).length + 1 ≤ (padP n ln bs).length := by
  have h := padP_append n (bs.drop k) (bs.take k) ln
  rw [List.take_append_drop] at h
  rw [h, List.length_append, List.drop_eq_getElem_cons hk, padP]
  split
  · rw [List.length_append, List.length_cons]; omega
  · rw [List.length_cons]; omega
set_option maxRecDepth 100000 in
set_option maxHeartbeats 1000000 in
theorem pw_write (B pw ab b q n : Nat) (l0 bs : List UInt8) (ln0 : Nat) (a : Option Addr) (c : Nat) (w : World) (h : PW X B pw ab b q n w l0 ln0) (hn : n ≤ 1000) (ht : TextAt w a bs.length c (tx bs)) (hp : Pla bs) (hl : l0.length + (padP n ln0 bs).length + n ≤ 900000) (hbl : ln0 + bs.length ≤ 800000) :
    Calls Tryd.prog 42 #[.pointer (some ⟨pw, 0, none⟩), .slice a bs.length c] w (PwPost X B pw ab b q n l0 bs ln0 w) := by
  have hcv := ht.2 w (Below.refl _ _)
  obtain ⟨s, hs⟩ : ∃ s, s = tx bs := ⟨_, rfl⟩
  obtain ⟨m, hm⟩ : ∃ m, m = bs.length := ⟨_, rfl⟩
  have hsn : s.size = m := by rw [hs, tx_size, hm]
  have HZ := Go.Lib.hid h.lt
  have H := Go.Lib.hid h
  have HP := Go.Lib.hid hp
  have HS := Go.Lib.hid hs
  have HN := Go.Lib.hid hm
  have HL : Hid (∀ k, k < bs.length → (l0 ++ padP n ln0 (bs.take k)).length + n + 1 ≤ 900000 ∧ lnL ln0 (bs.take k) ≤ 800000) := fun k hk => by
    have h1 := padP_take n bs ln0 k hk
    have h2 := lnL_le (bs.take k) ln0
    rw [List.length_take] at h2
    rw [List.length_append]
    omega
  have hm2 : m ≤ 900000 := by omega
  rw [← hs, ← hm] at hcv
  rw [← hm]
  clear ht hs hm h hp hl hbl
  go_enter Tryd.func42, Tryd.ntmps42
  go_wp2_with fail
  go_loopw [] (fun wr => ∃ k : Nat, k ≤ m ∧ wr.heap[w.heap.size]? = some (.stringIter s k) ∧ Hid (PW X B pw ab b q n wr (l0 ++ padP n ln0 (bs.take k)) (lnL ln0 (bs.take k))) ∧ Hid (IOn X B pw ab b w wr)) (fun wr => s.size - wr.iterPos w.heap.size)
  case atStart =>
    have hb : Below w.heap.size w (w.iter s 0) := (Below.refl _ _).alloc (Nat.le_refl _) _
    exact ⟨0, Nat.zero_le _, World.iter_heap w s 0, Go.Lib.hid (by simpa [padP, lnL] using H.out.below hb), IOn.of hb HZ.out.2⟩
  case round =>
    obtain ⟨k, hk, hit, HW, HO⟩ := hrel
    by_cases hlt : k < m
    · have hks : k < s.size := by omega
      obtain ⟨z, hz⟩ : ∃ z, z = s[k]'hks := ⟨_, rfl⟩
      have hkb : k < bs.length := by rw [← HN.out]; exact hlt
      have hzb : z = bs[k] := by
        have h1 := HS.out
        subst h1
        rw [hz]; rfl
      have hzp := HP.out z (by rw [hzb]; exact List.getElem_mem _)
      have hzp2 : z.toNat = 10 ∨ (32 ≤ z.toNat ∧ z.toNat ≤ 126) := by
        rcases hzp with h | h
        · left; rw [h]; rfl
        · exact .inr h
      have hz1 : z.toNat < 128 := by omega
      have q1 : (((z.toNat : Nat) : Int) == 27) = false := by simp; omega
      have hnx : ∀ ty, (Instr.next (.pointer (some ⟨w.heap.size, 0, none⟩)) true ty).run Tryd.prog wr = _ := fun ty => Go.Lib.run_next_ascii_at wr w.heap.size s k ty hit hks (by rw [← hz]; exact hz1)
      rw [← hz] at hnx
      have HTK : bs.take (k + 1) = bs.take k ++ [z] := by
        rw [hzb, List.take_add_one, List.getElem?_eq_getElem hkb]; rfl
      have hW1 := HW.out.iterAt hit (k + 1)
      have hO1 := HO.out.iterAt HZ.out.2 (Nat.le_refl _) s (k + 1)
      have hi1 := Go.Lib.iterAt_heap wr w.heap.size s k (k + 1) hit
      have hm1 := iterPos_at hit
      obtain ⟨hlk, hllk⟩ := HL.out k hkb
      have hsn1 := padP_snoc n z (bs.take k) ln0
      have hen1 := lnL_snoc z (bs.take k) ln0
      rw [← HTK] at hsn1 hen1
      obtain ⟨lk, hlk2⟩ : ∃ lk, lk = l0 ++ padP n ln0 (bs.take k) := ⟨_, rfl⟩
      obtain ⟨ln, hln⟩ : ∃ ln, ln = lnL ln0 (bs.take k) := ⟨_, rfl⟩
      have hend : lk ++ (if z = 10 then List.replicate (n - ln) 32 ++ [10] else [z]) = l0 ++ padP n ln0 (bs.take (k + 1)) := by rw [hsn1, hlk2, hln, List.append_assoc]
      rw [← hlk2, ← hln] at hW1
      rw [← hlk2] at hlk
      rw [← hln] at hllk hen1
      have HEND := Go.Lib.hid hend
      have HEN := Go.Lib.hid hen1
      obtain ⟨W1, hW⟩ : ∃ W, W = wr.iterAt w.heap.size s (k + 1) := ⟨_, rfl⟩
      rw [← hW] at hnx hW1 hO1 hi1
      have HW1 := Go.Lib.hid hW1
      have H1 := Go.Lib.hid (And.intro hO1 (And.intro hi1 hm1))
      have HLK := Go.Lib.hid hlk
      have q10 := hW1.c10
      have q9 := hW1.c9
      have f9 := hW1.f 9
      have hiz := hW1.lt.1
      have hes : ∀ W, (convert 21 9 (.int .i32 (z.toNat : Nat))).run Tryd.prog W = .ok (.string (tx [z])) W := fun W => by
        rw [← encode_one z hz1]
        exact run_convert_int_string W 21 9 .i32 _ (by kernel_rfl) (by kernel_rfl)
      have HWD := Go.Lib.hid fun W => width_any z.toNat W hzp2
      have HZS : Hid (∀ c ∈ [z], c.toNat < 128 ∧ c.toNat ≠ 27) := fun c hc => by
        rw [List.mem_singleton] at hc; rw [hc]; omega
      have b0 : Below W1.heap.size W1 W1.drew := (Below.refl _ _).drew
      clear hW1 hO1 hi1 hm1 hW hit hzb hz HW HO hend hen1 hsn1 HTK hlk2 hln hlk hzp
      go_wp2_with fail
      refine region_held_tail 7 (S := (fun w' => w'.cell? ⟨pw, 9, none⟩ = some (.int .i64 (ln : Nat)))) (by kernel_rfl) (by kernel_rfl) ?_ (fun hHeld => ?_)
      · (try dsimp only); first | done | (exact q9)
      refine HeldT.take (i := 0) (v := ?_) (by simp only [List.getElem?_toArray, List.getElem?_cons_succ, List.getElem?_cons_zero]; rfl) (by kernel_rfl) (by kernel_rfl) (by kernel_rfl) (by kernel_rfl) (by exact fun _ _ _ h => h) ?_ (by assumption) ?_
      rotate_left
      · refine Or.inl ⟨by rfl, ?_⟩
        (intro w hSw; (try dsimp only at hSw); go_simp; try with_reducible rfl)
      try simp only [Act.put, List.setIfInBounds_toArray, List.set_cons_zero, List.set_cons_succ]
      refine HeldT.take (i := 1) (v := ?_) (by simp only [List.getElem?_toArray, List.getElem?_cons_succ, List.getElem?_cons_zero]; rfl) (by kernel_rfl) (by kernel_rfl) (by kernel_rfl) (by kernel_rfl) (by exact fun _ _ _ h => h) ?_ (by assumption) ?_
      rotate_left
      · refine Or.inl ⟨by rfl, ?_⟩
        (intro w hSw; (try dsimp only at hSw); go_simp; try with_reducible rfl)
      try simp only [Act.put, List.setIfInBounds_toArray, List.set_cons_zero, List.set_cons_succ]
      refine HeldT.take (i := 2) (v := ?_) (by simp only [List.getElem?_toArray, List.getElem?_cons_succ, List.getElem?_cons_zero]; rfl) (by kernel_rfl) (by kernel_rfl) (by kernel_rfl) (by kernel_rfl) (by exact fun _ _ _ h => h) ?_ (by assumption) ?_
      rotate_left
      · refine Or.inl ⟨by rfl, ?_⟩
        (intro w hSw; (try dsimp only at hSw); go_simp; try with_reducible rfl)
      try simp only [Act.put, List.setIfInBounds_toArray, List.set_cons_zero, List.set_cons_succ]
      refine HeldT.take (i := 3) (v := ?_) (by simp only [List.getElem?_toArray, List.getElem?_cons_succ, List.getElem?_cons_zero]; rfl) (by kernel_rfl) (by kernel_rfl) (by kernel_rfl) (by kernel_rfl) (by exact fun _ _ _ h => h) ?_ (by assumption) ?_
      rotate_left
      · refine Or.inl ⟨by rfl, ?_⟩
        (intro w hSw; (try dsimp only at hSw); go_simp; try with_reducible rfl)
      try simp only [Act.put, List.setIfInBounds_toArray, List.set_cons_zero, List.set_cons_succ]
      refine HeldT.take (i := 4) (v := ?_) (by simp only [List.getElem?_toArray, List.getElem?_cons_succ, List.getElem?_cons_zero]; rfl) (by kernel_rfl) (by kernel_rfl) (by kernel_rfl) (by kernel_rfl) (by exact fun _ _ _ h => h) ?_ (by assumption) ?_
      rotate_left
      · refine Or.inl ⟨by rfl, ?_⟩
        (intro w hSw; (try dsimp only at hSw); go_simp; try with_reducible rfl)
      try simp only [Act.put, List.setIfInBounds_toArray, List.set_cons_zero, List.set_cons_succ]
      refine HeldT.one (i := 5) (by simp only [List.getElem?_toArray, List.getElem?_cons_succ, List.getElem?_cons_zero]; rfl) (by kernel_rfl) (by kernel_rfl) (fun K hK => ?_)
      go_simp
      ((refine (HWD.out _).mono ?_); rintro e w2 ⟨rfl, rfl⟩)
      try go_wp2_with fail
      refine hK.out _ _ ?_ (fun hHeld => ?_)
      · (try dsimp only); first | done | (exact q9)
      clear hK K
      try simp only [Act.put, List.setIfInBounds_toArray, List.set_cons_zero, List.set_cons_succ]
      refine HeldT.take (i := 6) (v := ?_) (by simp only [List.getElem?_toArray, List.getElem?_cons_succ, List.getElem?_cons_zero]; rfl) (by kernel_rfl) (by kernel_rfl) (by kernel_rfl) (by kernel_rfl) (by exact fun _ _ _ h => h) ?_ (by assumption) ?_
      rotate_left
      · refine Or.inl ⟨by rfl, ?_⟩
        (intro w hSw; (try dsimp only at hSw); go_simp; try with_reducible rfl)
      try simp only [Act.put, List.setIfInBounds_toArray, List.set_cons_zero, List.set_cons_succ]
      refine HeldT.tail (by kernel_rfl) rfl ?_
      by_cases h10 : z = 10
      · have q20 : (((z.toNat : Nat) : Int) == 10) = true := by rw [h10]; rfl
        have hw0 : widthZ z.toNat = 0 := by rw [h10]; rfl
        have HEND2 : Hid (lk ++ List.replicate (n - ln) 32 ++ [z] = l0 ++ padP n ln0 (bs.take (k + 1))) := by
          have := HEND.out
          rw [if_pos h10, ← List.append_assoc] at this
          refine Go.Lib.hid ?_
          rw [← this, h10]
        have HEN2 : Hid (lnL ln0 (bs.take (k + 1)) = 0) := by
          have := HEN.out
          rw [if_pos h10] at this
          exact Go.Lib.hid this
        rw [hw0]
        obtain ⟨hS1, hS2⟩ := (HW1.out.below b0).set ln
        have hS0 : Hid (IOn X B pw ab b W1 (W1.drew.setCell ⟨pw, 9, none⟩ (.int .i64 (ln : Nat)))) := (IOn.of b0 HW1.out.lt.2).trans hS2
        have HPAD := Go.Lib.hid (pad_any B pw ab b q n lk ln _ hS1 hn (by omega) (by have := HLK.out; omega))
        have hwz : (ln : Int) + ((0 : Nat) : Int) = ln := by omega
        clear hw0 h10 HEND HEN hS1 hS2
        go_wp2_with fail
        refine HPAD.out.mono ?_
        rintro e w3 ⟨rfl, i3, o3⟩
        have I3 := Go.Lib.hid i3
        have O3 := Go.Lib.hid (hS0.out.trans o3)
        have k2 := i3.c2
        have k9 := i3.c9
        have kf := i3.f 9
        have kz := i3.lt.1
        have HRS := Go.Lib.hid (reset_any B ab b q _ w3 i3.sw)
        clear i3 o3
        go_wp2_with fail
        refine HRS.out.mono ?_
        rintro e w4 ⟨rfl, rfl⟩
        have I20 := Go.Lib.hid (I3.out.set 0).1
        have O20 := Go.Lib.hid (O3.out.trans (I3.out.set 0).2)
        obtain ⟨c23, W23, hcv23, b23, t23⟩ := made_tx [z] (w3.setCell ⟨pw, 9, none⟩ (.int .i64 0))
        have hszx : (w3.setCell ⟨pw, 9, none⟩ (.int .i64 0)).heap.size = w3.heap.size := by simp [World.setCell]
        rw [hszx] at hcv23 t23
        have I23 := Go.Lib.hid (I20.out.below b23)
        have HA2 : Hid (Calls Tryd.prog 53 #[.pointer (some ⟨ab, 0, none⟩), .slice (some ⟨w3.heap.size, 0, none⟩) 1 c23] W23 (AwPost X B ab b q ((lk ++ List.replicate (n - ln) 32)) [z] W23)) := Go.Lib.hid (aw_write B ab b q ((lk ++ List.replicate (n - ln) 32)) [z] _ c23 W23 I23.out.sw t23 HZS.out (by have := HLK.out; simp <;> omega))
        have O23 := Go.Lib.hid (O20.out.trans (IOn.of b23 I20.out.lt.2))
        have P23 := Go.Lib.hid (HW1.out.it O23.out H1.out.2.1)
        simp only [List.length_cons, List.length_nil, Nat.zero_add] at hcv23
        clear b23 t23
        go_wp2_with fail
        refine HA2.out.mono ?_
        rintro e w24 ⟨rfl, s24, o24⟩
        have I24 := Go.Lib.hid (I23.out.on s24 o24)
        have O24 := Go.Lib.hid (H1.out.1.trans (O23.out.trans o24.iOn))
        have P24 := Go.Lib.hid (I23.out.it o24.iOn P23.out)
        clear s24 o24
        go_wp2_with fail
        go_roundw
        case rel =>
          refine ⟨k + 1, by omega, P24.out, ?_, O24.out⟩
          have h1 := I24.out
          rw [HEND2.out] at h1
          rw [HEN2.out]
          exact Go.Lib.hid h1
        case measure =>
          have h1 := iterPos_at P24.out
          have h2 := H1.out.2.2
          omega
      · have q20 : (((z.toNat : Nat) : Int) == 10) = false := by
          have : z.toNat ≠ 10 := fun e => h10 (UInt8.toNat_inj.1 e)
          simp; omega
        have hw1 : widthZ z.toNat = 1 := by
          have h11 : z.toNat ≠ 10 := fun e => h10 (UInt8.toNat_inj.1 e)
          unfold widthZ; rw [if_neg h11]
        have HEND2 : Hid (lk ++ [z] = l0 ++ padP n ln0 (bs.take (k + 1))) := by
          have := HEND.out
          rw [if_neg h10] at this
          exact Go.Lib.hid this
        have HEN2 : Hid (lnL ln0 (bs.take (k + 1)) = ln + 1) := by
          have := HEN.out
          rw [if_neg h10] at this
          exact Go.Lib.hid this
        rw [hw1]
        have I20 := Go.Lib.hid ((HW1.out.below b0).set (ln + 1)).1
        have O20 : Hid (IOn X B pw ab b W1 (W1.drew.setCell ⟨pw, 9, none⟩ (.int .i64 ((ln + 1 : Nat) : Int)))) := (IOn.of b0 HW1.out.lt.2).trans ((HW1.out.below b0).set (ln + 1)).2
        have q2 := HW1.out.c2
        have hcst : ((ln + 1 : Nat) : Int) = (ln : Int) + 1 := by omega
        rw [hcst] at I20 O20
        have I20 : Hid (PW X B pw ab b q n (W1.setCell ⟨pw, 9, none⟩ (.int .i64 ((ln : Int) + 1))).drew lk (ln + 1)) := I20
        have O20 : Hid (IOn X B pw ab b W1 (W1.setCell ⟨pw, 9, none⟩ (.int .i64 ((ln : Int) + 1))).drew) := O20
        clear hw1 h10 HEND HEN hcst
        obtain ⟨c23, W23, hcv23, b23, t23⟩ := made_tx [z] ((W1.setCell ⟨pw, 9, none⟩ (.int .i64 ((ln : Int) + 1))).drew)
        have hszx : ((W1.setCell ⟨pw, 9, none⟩ (.int .i64 ((ln : Int) + 1))).drew).heap.size = W1.heap.size := by simp [World.setCell]
        rw [hszx] at hcv23 t23
        have I23 := Go.Lib.hid (I20.out.below b23)
        have HA2 : Hid (Calls Tryd.prog 53 #[.pointer (some ⟨ab, 0, none⟩), .slice (some ⟨W1.heap.size, 0, none⟩) 1 c23] W23 (AwPost X B ab b q (lk) [z] W23)) := Go.Lib.hid (aw_write B ab b q (lk) [z] _ c23 W23 I23.out.sw t23 HZS.out (by have := HLK.out; simp <;> omega))
        have O23 := Go.Lib.hid (O20.out.trans (IOn.of b23 I20.out.lt.2))
        have P23 := Go.Lib.hid (HW1.out.it O23.out H1.out.2.1)
        simp only [List.length_cons, List.length_nil, Nat.zero_add] at hcv23
        clear b23 t23
        go_wp2_with fail
        refine HA2.out.mono ?_
        rintro e w24 ⟨rfl, s24, o24⟩
        have I24 := Go.Lib.hid (I23.out.on s24 o24)
        have O24 := Go.Lib.hid (H1.out.1.trans (O23.out.trans o24.iOn))
        have P24 := Go.Lib.hid (I23.out.it o24.iOn P23.out)
        clear s24 o24
        go_wp2_with fail
        go_roundw
        case rel =>
          refine ⟨k + 1, by omega, P24.out, ?_, O24.out⟩
          have h1 := I24.out
          rw [HEND2.out] at h1
          rw [HEN2.out]
          exact Go.Lib.hid h1
        case measure =>
          have h1 := iterPos_at P24.out
          have h2 := H1.out.2.2
          omega
    · have hkn : k = m := by omega
      have hnx : ∀ ty, (Instr.next (.pointer (some ⟨w.heap.size, 0, none⟩)) true ty).run Tryd.prog wr = _ := fun ty => Go.Lib.run_next_end_at wr w.heap.size s k ty hit (by omega)
      have HE := Go.Lib.hid hkn
      clear hkn hit
      go_wp2_with fail
      go_returns
      refine ⟨by rw [← HN.out]; rfl, ?_, HO.out⟩
      have := HW.out
      rw [HE.out, HN.out, List.take_length] at this
      exact this
end Go.Proofs.YtbibokkclejapaaDoor
