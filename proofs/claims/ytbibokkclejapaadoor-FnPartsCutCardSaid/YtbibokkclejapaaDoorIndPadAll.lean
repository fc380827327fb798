/- padding.Writer's Flush and Bytes; NewWriter; impl.Padded. (Printed by gen/mkpadall.py.) -/
import Derived.Test.YtbibokkclejapaaDoorIndPadW
namespace Go.Proofs.YtbibokkclejapaaDoor
open Go.RowKit
set_option linter.unusedVariables false
set_option linter.unusedSimpArgs false
variable {X : Nat → Prop}

def endP (n ln : Nat) : List UInt8 := if ln = 0 then [] else List.replicate (n - ln) 32
theorem cache_reset (b : Nat) (W : World) (c6 : W.cell? ⟨b, 6, none⟩ = some (.slice none 0 0)) (c7 : W.cell? ⟨b, 7, none⟩ = some (.int .i64 0)) (c8 : W.cell? ⟨b, 8, none⟩ = some (.int .i8 0)) (f : ∀ j, W.frozen? ⟨b, j, none⟩ = false) :
    Calls Tryd.prog 68 #[.pointer (some ⟨b, 6, none⟩)] W fun e w' => e = .returned (.tuple #[]) ∧ BA w' b 6 none 0 [] ∧ KS b (fun o => o = 6 ∨ o = 7 ∨ o = 8) W w' := by
  refine (buf_reset b 6 0 0 none 0 0 W c6 c7 c8 f).mono ?_
  rintro e w' ⟨rfl, rfl⟩
  have k : KS b (fun o => o = 6 ∨ o = 7 ∨ o = 8) W (((W.setCell ⟨b, 6, none⟩ (.slice none 0 0)).setCell ⟨b, 6 + 1, none⟩ (.int .i64 0)).setCell ⟨b, 6 + 2, none⟩ (.int .i8 0)) :=
    ((KS.one W 6 _ (.inl rfl)).trans (.one _ 7 _ (.inr (.inl rfl)))).trans (.one _ 8 _ (.inr (.inr rfl)))
  refine ⟨rfl, ⟨?_, ?_, ⟨0, ?_⟩, fun j => (k.fz j).trans (f j), .inl ⟨rfl, rfl, rfl⟩⟩, k⟩
  · rw [World.cell?_setCell_other _ _ _ _ (by simp), World.cell?_setCell_other _ _ _ _ (by simp)]
    exact World.cell?_setCell_same' _ _ _ (by rw [c6]; rfl)
  · rw [World.cell?_setCell_other _ _ _ _ (by simp)]
    exact World.cell?_setCell_same' _ _ _ (by rw [World.cell?_setCell_other _ _ _ _ (by simp), c7]; rfl)
  · exact World.cell?_setCell_same' _ _ _ (by rw [World.cell?_setCell_other _ _ _ _ (by simp), World.cell?_setCell_other _ _ _ _ (by simp), c8]; rfl)

def FlushPost (B pw : Nat) (l : List UInt8) (w : World) (e : Ending) (w' : World) : Prop :=
  e = .returned .nilIface ∧ (∃ A cap, BA w' pw 6 A cap l) ∧ Below B w w'
set_option maxRecDepth 100000 in
set_option maxHeartbeats 1000000 in
theorem flush_any (B pw ab n : Nat) (l : List UInt8) (ln : Nat) (w : World) (h : PW X B pw ab pw 3 n w l ln) (hn : n ≤ 1000) (hln : ln ≤ 900000) (hl : l.length + n ≤ 900000) :
    Calls Tryd.prog 59 #[.pointer (some ⟨pw, 0, none⟩)] w (FlushPost B pw (l ++ endP n ln) w) := by
  have HH := Go.Lib.hid h
  have q9 := h.c9
  have hz := h.lt.1
  have HPAD := Go.Lib.hid (pad_any B pw ab pw 3 n l ln w h hn hln (by omega))
  have HL2 : Hid ((l ++ endP n ln).length ≤ 900000) := by
    refine Go.Lib.hid ?_
    rw [List.length_append, endP]
    split <;> simp <;> omega
  by_cases h0 : ln = 0
  · have he : l ++ endP n ln = l := by rw [endP, if_pos h0, List.append_nil]
    rw [he] at HL2 ⊢
    subst h0
    have I := HH
    have BB : Hid (Below B w w) := Go.Lib.hid (Below.refl _ _)
    clear h he hl
    go_enter Tryd.func59, Tryd.ntmps59
    have HRS := Go.Lib.hid (cache_reset pw w I.out.c6 I.out.c7 I.out.c8 I.out.f)
    go_wp2_with fail
    refine HRS.out.mono ?_
    rintro e w3 ⟨rfl, hc3, hk3⟩
    have HK3 := Go.Lib.hid hk3
    have HWT : Hid (∀ W2, Below w3.heap.size w3 W2 → Calls Tryd.prog 71 #[.pointer (some ⟨pw, 3, none⟩), .iface 58 (.pointer (some ⟨pw, 6, none⟩))] W2 (ToPost pw 3 6 l W2)) := fun W2 hW => by
      obtain ⟨A, R, hs⟩ := I.out.sw
      obtain ⟨cap, hb⟩ := hs.buf
      exact write_to pw 3 6 A cap l W2 ((hb.ks hk3 (by omega) (by omega) (by omega)).below hW) (hc3.below hW) (by omega) HL2.out
    have b0 : Below w3.heap.size w3 w3.drew := (Below.refl _ _).drew
    have hz3 := lt_of_cell hc3.c0
    have HBW : Hid (Below B w w3) := BB.out.trans (hk3.below I.out.hB I.out.lt.1)
    have k9 := (hk3.cells 9 (by omega)).trans I.out.c9
    have k10 := (hk3.cells 10 (by omega)).trans I.out.c10
    have kf : ∀ j, w3.frozen? ⟨pw, j, none⟩ = false := fun j => (hk3.fz j).trans (I.out.f j)
    have HKF := Go.Lib.hid kf
    clear hc3 hk3 kf q9
    go_wp2_with fail
    refine region_held_tail 11 (S := (fun w' => True)) (by kernel_rfl) (by kernel_rfl) ?_ (fun hHeld => ?_)
    · (try dsimp only); first | done | (trivial)
    refine HeldT.take (i := 0) (v := ?_) (by simp only [List.getElem?_toArray, List.getElem?_cons_succ, List.getElem?_cons_zero]; rfl) (by kernel_rfl) (by kernel_rfl) (by kernel_rfl) (by kernel_rfl) (by exact fun _ _ _ h => h) ?_ (by assumption) ?_
    rotate_left
    · refine Or.inl ⟨by rfl, ?_⟩
      (intro w hSw; (try dsimp only at hSw); go_simp; try with_reducible rfl)
    try simp only [Act.put, List.setIfInBounds_toArray, List.set_cons_zero, List.set_cons_succ]
    refine HeldT.take (i := 1) (v := ?_) (by simp only [List.getElem?_toArray, List.getElem?_cons_succ, List.getElem?_cons_zero]; rfl) (by kernel_rfl) (by kernel_rfl) (by kernel_rfl) (by kernel_rfl) (by exact fun _ _ _ h => h) ?_ (by assumption) ?_
    rotate_left
    · refine Or.inl ⟨by rfl, ?_⟩
      (intro w hSw; (try dsimp only at hSw); go_simp; try with_reducible rfl)
    try simp only [Act.put, List.setIfInBounds_toArray, List.set_cons_zero, List.set_cons_succ]
    refine HeldT.take (i := 2) (v := ?_) (by simp only [List.getElem?_toArray, List.getElem?_cons_succ, List.getElem?_cons_zero]; rfl) (by kernel_rfl) (by kernel_rfl) (by kernel_rfl) (by kernel_rfl) (by exact fun _ _ _ h => h) ?_ (by assumption) ?_
    rotate_left
    · refine Or.inl ⟨by rfl, ?_⟩
      (intro w hSw; (try dsimp only at hSw); go_simp; try with_reducible rfl)
    try simp only [Act.put, List.setIfInBounds_toArray, List.set_cons_zero, List.set_cons_succ]
    refine HeldT.take (i := 3) (v := ?_) (by simp only [List.getElem?_toArray, List.getElem?_cons_succ, List.getElem?_cons_zero]; rfl) (by kernel_rfl) (by kernel_rfl) (by kernel_rfl) (by kernel_rfl) (by exact fun _ _ _ h => h) ?_ (by assumption) ?_
    rotate_left
    · refine Or.inl ⟨by rfl, ?_⟩
      (intro w hSw; (try dsimp only at hSw); go_simp; try with_reducible rfl)
    try simp only [Act.put, List.setIfInBounds_toArray, List.set_cons_zero, List.set_cons_succ]
    refine HeldT.take (i := 4) (v := ?_) (by simp only [List.getElem?_toArray, List.getElem?_cons_succ, List.getElem?_cons_zero]; rfl) (by kernel_rfl) (by kernel_rfl) (by kernel_rfl) (by kernel_rfl) (by exact fun _ _ _ h => h) ?_ (by assumption) ?_
    rotate_left
    · refine Or.inl ⟨by rfl, ?_⟩
      (intro w hSw; (try dsimp only at hSw); go_simp; try with_reducible rfl)
    try simp only [Act.put, List.setIfInBounds_toArray, List.set_cons_zero, List.set_cons_succ]
    refine HeldT.take (i := 5) (v := ?_) (by simp only [List.getElem?_toArray, List.getElem?_cons_succ, List.getElem?_cons_zero]; rfl) (by kernel_rfl) (by kernel_rfl) (by kernel_rfl) (by kernel_rfl) (by exact fun _ _ _ h => h) ?_ (by assumption) ?_
    rotate_left
    · refine Or.inl ⟨by rfl, ?_⟩
      (intro w hSw; (try dsimp only at hSw); go_simp; try with_reducible rfl)
    try simp only [Act.put, List.setIfInBounds_toArray, List.set_cons_zero, List.set_cons_succ]
    refine HeldT.take (i := 6) (v := ?_) (by simp only [List.getElem?_toArray, List.getElem?_cons_succ, List.getElem?_cons_zero]; rfl) (by kernel_rfl) (by kernel_rfl) (by kernel_rfl) (by kernel_rfl) (by exact fun _ _ _ h => h) ?_ (by assumption) ?_
    rotate_left
    · refine Or.inl ⟨by rfl, ?_⟩
      (intro w hSw; (try dsimp only at hSw); go_simp; try with_reducible rfl)
    try simp only [Act.put, List.setIfInBounds_toArray, List.set_cons_zero, List.set_cons_succ]
    refine HeldT.one (i := 7) (by simp only [List.getElem?_toArray, List.getElem?_cons_succ, List.getElem?_cons_zero]; rfl) (by kernel_rfl) (by kernel_rfl) (fun K hK => ?_)
    go_simp
    ((refine (HWT.out _ b0).mono ?_); rintro e w4 ⟨rfl, hb4, hk4⟩; have H4 := Go.Lib.hid hb4; have e9 := (hk4.cells 9 (by omega)).trans k9; have e10 := (hk4.cells 10 (by omega)).trans k10; have ef9 := (hk4.fz 9).trans (HKF.out 9); have ef10 := (hk4.fz 10).trans (HKF.out 10); have HB4 := Go.Lib.hid (HBW.out.trans ((Below.refl w3.heap.size w3).drew.mono (by exact Nat.le_trans I.out.hB (Nat.le_of_lt hz3)) |>.trans (hk4.below I.out.hB hz3))); clear hb4 hk4)
    try go_wp2_with fail
    refine hK.out _ _ ?_ (fun hHeld => ?_)
    · (try dsimp only); first | done | (trivial)
    clear hK K
    try simp only [Act.put, List.setIfInBounds_toArray, List.set_cons_zero, List.set_cons_succ]
    refine HeldT.take (i := 8) (v := ?_) (by simp only [List.getElem?_toArray, List.getElem?_cons_succ, List.getElem?_cons_zero]; rfl) (by kernel_rfl) (by kernel_rfl) (by kernel_rfl) (by kernel_rfl) (by exact fun _ _ _ h => h) ?_ (by assumption) ?_
    rotate_left
    · refine Or.inl ⟨by rfl, ?_⟩
      (intro w hSw; (try dsimp only at hSw); go_simp; try with_reducible rfl)
    try simp only [Act.put, List.setIfInBounds_toArray, List.set_cons_zero, List.set_cons_succ]
    refine HeldT.take (i := 9) (v := ?_) (by simp only [List.getElem?_toArray, List.getElem?_cons_succ, List.getElem?_cons_zero]; rfl) (by kernel_rfl) (by kernel_rfl) (by kernel_rfl) (by kernel_rfl) (by exact fun _ _ _ h => h) ?_ (by assumption) ?_
    rotate_left
    · refine Or.inl ⟨by rfl, ?_⟩
      (intro w hSw; (try dsimp only at hSw); go_simp; try with_reducible rfl)
    try simp only [Act.put, List.setIfInBounds_toArray, List.set_cons_zero, List.set_cons_succ]
    refine HeldT.take (i := 10) (v := ?_) (by simp only [List.getElem?_toArray, List.getElem?_cons_succ, List.getElem?_cons_zero]; rfl) (by kernel_rfl) (by kernel_rfl) (by kernel_rfl) (by kernel_rfl) (by exact fun _ _ _ h => h) ?_ (by assumption) ?_
    rotate_left
    · refine Or.inl ⟨by rfl, ?_⟩
      (intro w hSw; (try dsimp only at hSw); go_simp; try with_reducible rfl)
    try simp only [Act.put, List.setIfInBounds_toArray, List.set_cons_zero, List.set_cons_succ]
    refine HeldT.tail (by kernel_rfl) rfl ?_
    go_wp2_with fail
    go_returns
    obtain ⟨A4, cap4, hb4⟩ := H4.out
    exact ⟨rfl, ⟨A4, cap4, (hb4.set (by omega) (by omega) (by omega)).set (by omega) (by omega) (by omega)⟩, (HB4.out.setCell I.out.hB _).setCell I.out.hB _⟩
  · have he : l ++ endP n ln = l ++ List.replicate (n - ln) 32 := by rw [endP, if_neg h0]
    rw [he] at HL2 ⊢
    have q0 : ((ln : Int) == 0) = false := by simp; omega
    obtain ⟨l2, hl2⟩ : ∃ l2, l2 = l ++ List.replicate (n - ln) 32 := ⟨_, rfl⟩
    have hpd : PadPost X B pw ab pw 3 n l ln w = fun e w' => e = .returned .nilIface ∧ PW X B pw ab pw 3 n w' l2 ln ∧ IOn X B pw ab pw w w' := by rw [hl2]; rfl
    rw [hpd] at HPAD
    rw [← hl2] at HL2 ⊢
    clear h he h0 hl2 hpd hl
    go_enter Tryd.func59, Tryd.ntmps59
    go_wp2_with fail
    refine HPAD.out.mono ?_
    rintro e w2 ⟨rfl, i2, o2⟩
    have I := Go.Lib.hid i2
    have BB : Hid (Below B w w2) := Go.Lib.hid o2.below
    have kz := i2.lt.1
    clear i2 o2
    have HRS := Go.Lib.hid (cache_reset pw w2 I.out.c6 I.out.c7 I.out.c8 I.out.f)
    go_wp2_with fail
    refine HRS.out.mono ?_
    rintro e w3 ⟨rfl, hc3, hk3⟩
    have HK3 := Go.Lib.hid hk3
    have HWT : Hid (∀ W2, Below w3.heap.size w3 W2 → Calls Tryd.prog 71 #[.pointer (some ⟨pw, 3, none⟩), .iface 58 (.pointer (some ⟨pw, 6, none⟩))] W2 (ToPost pw 3 6 l2 W2)) := fun W2 hW => by
      obtain ⟨A, R, hs⟩ := I.out.sw
      obtain ⟨cap, hb⟩ := hs.buf
      exact write_to pw 3 6 A cap l2 W2 ((hb.ks hk3 (by omega) (by omega) (by omega)).below hW) (hc3.below hW) (by omega) HL2.out
    have b0 : Below w3.heap.size w3 w3.drew := (Below.refl _ _).drew
    have hz3 := lt_of_cell hc3.c0
    have HBW : Hid (Below B w w3) := BB.out.trans (hk3.below I.out.hB I.out.lt.1)
    have k9 := (hk3.cells 9 (by omega)).trans I.out.c9
    have k10 := (hk3.cells 10 (by omega)).trans I.out.c10
    have kf : ∀ j, w3.frozen? ⟨pw, j, none⟩ = false := fun j => (hk3.fz j).trans (I.out.f j)
    have HKF := Go.Lib.hid kf
    clear hc3 hk3 kf q9
    go_wp2_with fail
    refine region_held_tail 11 (S := (fun w' => True)) (by kernel_rfl) (by kernel_rfl) ?_ (fun hHeld => ?_)
    · (try dsimp only); first | done | (trivial)
    refine HeldT.take (i := 0) (v := ?_) (by simp only [List.getElem?_toArray, List.getElem?_cons_succ, List.getElem?_cons_zero]; rfl) (by kernel_rfl) (by kernel_rfl) (by kernel_rfl) (by kernel_rfl) (by exact fun _ _ _ h => h) ?_ (by assumption) ?_
    rotate_left
    · refine Or.inl ⟨by rfl, ?_⟩
      (intro w hSw; (try dsimp only at hSw); go_simp; try with_reducible rfl)
    try simp only [Act.put, List.setIfInBounds_toArray, List.set_cons_zero, List.set_cons_succ]
    refine HeldT.take (i := 1) (v := ?_) (by simp only [List.getElem?_toArray, List.getElem?_cons_succ, List.getElem?_cons_zero]; rfl) (by kernel_rfl) (by kernel_rfl) (by kernel_rfl) (by kernel_rfl) (by exact fun _ _ _ h => h) ?_ (by assumption) ?_
    rotate_left
    · refine Or.inl ⟨by rfl, ?_⟩
      (intro w hSw; (try dsimp only at hSw); go_simp; try with_reducible rfl)
    try simp only [Act.put, List.setIfInBounds_toArray, List.set_cons_zero, List.set_cons_succ]
    refine HeldT.take (i := 2) (v := ?_) (by simp only [List.getElem?_toArray, List.getElem?_cons_succ, List.getElem?_cons_zero]; rfl) (by kernel_rfl) (by kernel_rfl) (by kernel_rfl) (by kernel_rfl) (by exact fun _ _ _ h => h) ?_ (by assumption) ?_
    rotate_left
    · refine Or.inl ⟨by rfl, ?_⟩
      (intro w hSw; (try dsimp only at hSw); go_simp; try with_reducible rfl)
    try simp only [Act.put, List.setIfInBounds_toArray, List.set_cons_zero, List.set_cons_succ]
    refine HeldT.take (i := 3) (v := ?_) (by simp only [List.getElem?_toArray, List.getElem?_cons_succ, List.getElem?_cons_zero]; rfl) (by kernel_rfl) (by kernel_rfl) (by kernel_rfl) (by kernel_rfl) (by exact fun _ _ _ h => h) ?_ (by assumption) ?_
    rotate_left
    · refine Or.inl ⟨by rfl, ?_⟩
      (intro w hSw; (try dsimp only at hSw); go_simp; try with_reducible rfl)
    try simp only [Act.put, List.setIfInBounds_toArray, List.set_cons_zero, List.set_cons_succ]
    refine HeldT.take (i := 4) (v := ?_) (by simp only [List.getElem?_toArray, List.getElem?_cons_succ, List.getElem?_cons_zero]; rfl) (by kernel_rfl) (by kernel_rfl) (by kernel_rfl) (by kernel_rfl) (by exact fun _ _ _ h => h) ?_ (by assumption) ?_
    rotate_left
    · refine Or.inl ⟨by rfl, ?_⟩
      (intro w hSw; (try dsimp only at hSw); go_simp; try with_reducible rfl)
    try simp only [Act.put, List.setIfInBounds_toArray, List.set_cons_zero, List.set_cons_succ]
    refine HeldT.take (i := 5) (v := ?_) (by simp only [List.getElem?_toArray, List.getElem?_cons_succ, List.getElem?_cons_zero]; rfl) (by kernel_rfl) (by kernel_rfl) (by kernel_rfl) (by kernel_rfl) (by exact fun _ _ _ h => h) ?_ (by assumption) ?_
    rotate_left
    · refine Or.inl ⟨by rfl, ?_⟩
      (intro w hSw; (try dsimp only at hSw); go_simp; try with_reducible rfl)
    try simp only [Act.put, List.setIfInBounds_toArray, List.set_cons_zero, List.set_cons_succ]
    refine HeldT.take (i := 6) (v := ?_) (by simp only [List.getElem?_toArray, List.getElem?_cons_succ, List.getElem?_cons_zero]; rfl) (by kernel_rfl) (by kernel_rfl) (by kernel_rfl) (by kernel_rfl) (by exact fun _ _ _ h => h) ?_ (by assumption) ?_
    rotate_left
    · refine Or.inl ⟨by rfl, ?_⟩
      (intro w hSw; (try dsimp only at hSw); go_simp; try with_reducible rfl)
    try simp only [Act.put, List.setIfInBounds_toArray, List.set_cons_zero, List.set_cons_succ]
    refine HeldT.one (i := 7) (by simp only [List.getElem?_toArray, List.getElem?_cons_succ, List.getElem?_cons_zero]; rfl) (by kernel_rfl) (by kernel_rfl) (fun K hK => ?_)
    go_simp
    ((refine (HWT.out _ b0).mono ?_); rintro e w4 ⟨rfl, hb4, hk4⟩; have H4 := Go.Lib.hid hb4; have e9 := (hk4.cells 9 (by omega)).trans k9; have e10 := (hk4.cells 10 (by omega)).trans k10; have ef9 := (hk4.fz 9).trans (HKF.out 9); have ef10 := (hk4.fz 10).trans (HKF.out 10); have HB4 := Go.Lib.hid (HBW.out.trans ((Below.refl w3.heap.size w3).drew.mono (by exact Nat.le_trans I.out.hB (Nat.le_of_lt hz3)) |>.trans (hk4.below I.out.hB hz3))); clear hb4 hk4)
    try go_wp2_with fail
    refine hK.out _ _ ?_ (fun hHeld => ?_)
    · (try dsimp only); first | done | (trivial)
    clear hK K
    try simp only [Act.put, List.setIfInBounds_toArray, List.set_cons_zero, List.set_cons_succ]
    refine HeldT.take (i := 8) (v := ?_) (by simp only [List.getElem?_toArray, List.getElem?_cons_succ, List.getElem?_cons_zero]; rfl) (by kernel_rfl) (by kernel_rfl) (by kernel_rfl) (by kernel_rfl) (by exact fun _ _ _ h => h) ?_ (by assumption) ?_
    rotate_left
    · refine Or.inl ⟨by rfl, ?_⟩
      (intro w hSw; (try dsimp only at hSw); go_simp; try with_reducible rfl)
    try simp only [Act.put, List.setIfInBounds_toArray, List.set_cons_zero, List.set_cons_succ]
    refine HeldT.take (i := 9) (v := ?_) (by simp only [List.getElem?_toArray, List.getElem?_cons_succ, List.getElem?_cons_zero]; rfl) (by kernel_rfl) (by kernel_rfl) (by kernel_rfl) (by kernel_rfl) (by exact fun _ _ _ h => h) ?_ (by assumption) ?_
    rotate_left
    · refine Or.inl ⟨by rfl, ?_⟩
      (intro w hSw; (try dsimp only at hSw); go_simp; try with_reducible rfl)
    try simp only [Act.put, List.setIfInBounds_toArray, List.set_cons_zero, List.set_cons_succ]
    refine HeldT.take (i := 10) (v := ?_) (by simp only [List.getElem?_toArray, List.getElem?_cons_succ, List.getElem?_cons_zero]; rfl) (by kernel_rfl) (by kernel_rfl) (by kernel_rfl) (by kernel_rfl) (by exact fun _ _ _ h => h) ?_ (by assumption) ?_
    rotate_left
    · refine Or.inl ⟨by rfl, ?_⟩
      (intro w hSw; (try dsimp only at hSw); go_simp; try with_reducible rfl)
    try simp only [Act.put, List.setIfInBounds_toArray, List.set_cons_zero, List.set_cons_succ]
    refine HeldT.tail (by kernel_rfl) rfl ?_
    go_wp2_with fail
    go_returns
    obtain ⟨A4, cap4, hb4⟩ := H4.out
    exact ⟨rfl, ⟨A4, cap4, (hb4.set (by omega) (by omega) (by omega)).set (by omega) (by omega) (by omega)⟩, (HB4.out.setCell I.out.hB _).setCell I.out.hB _⟩

def pwCells (n : Int) (ab : Nat) : Array Value := #[.int .u64 n, .nilFunc, .pointer (some ⟨ab, 0, none⟩), .slice none 0 0, .int .i64 0, .int .i8 0, .slice none 0 0, .int .i64 0, .int .i8 0, .int .i64 0, .bool false]
set_option maxHeartbeats 800000 in
theorem newPad_any (n : Int) (w : World) : Calls Tryd.prog 46 #[.int .u64 n, .nilFunc] w fun e w' => e = .returned (.pointer (some ⟨w.heap.size, 0, none⟩)) ∧ w' = (w.alloc (.cells (pwCells n (w.heap.size + 1)) 78)).alloc (.cells (awCells w.heap.size) 75) := by
  go_enter Tryd.func46, Tryd.ntmps46
  go_wp2_with fail
  go_returns
  exact ⟨rfl, rfl⟩
theorem PW.start (n : Nat) (w : World) (hX : ∀ k, X k → k < w.heap.size) : PW X w.heap.size w.heap.size (w.heap.size + 1) w.heap.size 3 n ((w.alloc (.cells (pwCells (n : Nat) (w.heap.size + 1)) 78)).alloc (.cells (awCells w.heap.size) 75)) [] 0 := by
  obtain ⟨W, hW⟩ : ∃ W, W = (w.alloc (.cells (pwCells (n : Nat) (w.heap.size + 1)) 78)).alloc (.cells (awCells w.heap.size) 75) := ⟨_, rfl⟩
  have hb : W.heap[w.heap.size]? = some (.cells (pwCells (n : Nat) (w.heap.size + 1)) 78 (0, 0)) := by
    rw [hW, Below.heap_alloc _ _ _ (by simp)]
    exact heap_alloc_new w _
  have ha : W.heap[w.heap.size + 1]? = some (.cells (awCells w.heap.size) 75 (0, 0)) := by
    have := heap_alloc_new (w.alloc (.cells (pwCells (n : Nat) (w.heap.size + 1)) 78)) (.cells (awCells w.heap.size) 75 (0, 0))
    rw [← hW] at this
    simpa using this
  rw [← hW]
  have cb : ∀ o, W.cell? ⟨w.heap.size, o, none⟩ = (pwCells (n : Nat) (w.heap.size + 1))[o]? := fun o => by rw [World.cell?, hb]; rfl
  have ca : ∀ o, W.cell? ⟨w.heap.size + 1, o, none⟩ = (awCells w.heap.size)[o]? := fun o => by rw [World.cell?, ha]; rfl
  have fb : ∀ o, W.frozen? ⟨w.heap.size, o, none⟩ = false := fun o => by rw [World.frozen?, hb]; simp
  have fa : ∀ o, W.frozen? ⟨w.heap.size + 1, o, none⟩ = false := fun o => by rw [World.frozen?, ha]; simp
  refine ⟨⟨none, none, ⟨0, cb 3, cb 4, ⟨0, cb 5⟩, fb, .inl ⟨rfl, rfl, rfl⟩⟩, Nat.le_refl _, by omega, by omega, fun g hg => (by cases hg), fun r hr => (by cases hr), ca 0, ca 1, ca 5, ca 6, ⟨0, ca 7⟩, ca 8, ca 9, fa, fun k hx => ⟨Nat.lt_trans (hX k hx) (Array.getElem?_eq_some_iff.1 hb).1, by have := hX k hx; omega, by have := hX k hx; omega, (fun e => by cases e), (fun e => by cases e)⟩⟩, Nat.le_refl _, by omega, .inl ⟨rfl, rfl⟩, cb 0, cb 1, cb 2, cb 6, cb 7, cb 8, cb 9, cb 10, fb, fun k hx => by have := hX k hx; omega⟩
theorem startP_below (n : Nat) (w : World) : Below w.heap.size w ((w.alloc (.cells (pwCells (n : Nat) (w.heap.size + 1)) 78)).alloc (.cells (awCells w.heap.size) 75)) :=
  ((Below.refl _ _).alloc (Nat.le_refl _) _).alloc (by simp) _

theorem pw_bytes (b : Nat) (A : Option Addr) (cap : Nat) (l : List UInt8) (w : World) (hb : BA w b 6 A cap l) : Calls Tryd.prog 79 #[.pointer (some ⟨b, 0, none⟩)] w (BytesPost l w) := by
  have HB := Go.Lib.hid (buf_bytes b 6 A cap l w hb)
  have HT := Go.Lib.hid hb.text
  have hz := lt_of_cell hb.c0
  have c0 : ∃ u, w.cell? ⟨b, 6, none⟩ = some u := ⟨_, hb.c0⟩
  clear hb
  go_enter Tryd.func79, Tryd.ntmps79
  go_wp2_with fail
  refine HB.out.mono ?_
  rintro e w1 ⟨rfl, k, rfl⟩
  go_wp2_with fail
  go_returns
  exact ⟨A, cap, rfl, HT.out.below (below_drewN (Below.refl _ _) _), below_drewN (Below.refl _ _) _⟩

set_option maxHeartbeats 800000 in
theorem pbytes_any (n : Nat) (l : List UInt8) (a : Option Addr) (c : Nat) (w : World) (ht : TextAt w a l.length c (tx l)) (hp : Pla l) (hn : n ≤ 1000) (hl : (padP n 0 l).length + n ≤ 900000) (hll : l.length ≤ 800000) :
    Calls Tryd.prog 56 #[.slice a l.length c, .int .u64 (n : Nat)] w (BytesPost (padL n l) w) := by
  have HN := Go.Lib.hid (newPad_any (n : Nat) w)
  obtain ⟨W, hW⟩ : ∃ W, W = (w.alloc (.cells (pwCells (n : Nat) (w.heap.size + 1)) 78)).alloc (.cells (awCells w.heap.size) 75) := ⟨_, rfl⟩
  have hb := startP_below n w
  have hi := PW.start (X := fun _ => False) n w (fun _ h => h.elim)
  rw [← hW] at hb hi HN
  have HB := Go.Lib.hid hb
  have HW := Go.Lib.hid (pw_write _ _ _ _ _ n [] l 0 a c W hi hn (ht.below hb) hp (by simpa using hl) (by omega))
  have HFL : Hid (∀ W2, PW (fun _ => False) w.heap.size w.heap.size (w.heap.size + 1) w.heap.size 3 n W2 ([] ++ padP n 0 l) (lnL 0 l) → Calls Tryd.prog 59 #[.pointer (some ⟨w.heap.size, 0, none⟩)] W2 (FlushPost w.heap.size w.heap.size (padL n l) W2)) := fun W2 h => by
    have h1 := lnL_le l 0
    have := flush_any _ _ _ n _ _ W2 h hn (by omega) (by simpa using hl)
    exact this
  obtain ⟨m, hm⟩ : ∃ m, m = l.length := ⟨_, rfl⟩
  rw [← hm] at HW ⊢
  clear ht hp hl hll hW hb hi hm
  go_enter Tryd.func56, Tryd.ntmps56
  go_wp2_with fail
  refine HN.out.mono ?_
  rintro e w1 ⟨rfl, rfl⟩
  go_wp2_with fail
  refine HW.out.mono ?_
  rintro e w2 ⟨rfl, i2, o2⟩
  have O2 := Go.Lib.hid (HB.out.trans o2.below)
  have HF2 := Go.Lib.hid (HFL.out w2 i2)
  clear i2 o2
  go_wp2_with fail
  refine HF2.out.mono ?_
  rintro e w3 ⟨rfl, ⟨A3, cap3, hb3⟩, b3⟩
  have O3 := Go.Lib.hid (O2.out.trans b3)
  have HY := Go.Lib.hid (pw_bytes _ A3 cap3 _ w3 hb3)
  clear b3 hb3
  go_wp2_with fail
  refine HY.out.mono ?_
  rintro e w4 ⟨A, cap, rfl, t4, b4⟩
  have T4 := Go.Lib.hid t4
  have B4 := Go.Lib.hid (O3.out.trans (b4.mono O3.out.size))
  clear t4 b4
  go_wp2_with fail
  go_returns
  exact ⟨A, cap, rfl, T4.out, B4.out⟩

set_option maxHeartbeats 800000 in
theorem padded_any (n : Nat) (l : List UInt8) (w : World) (hp : Pla l) (hn : n ≤ 1000) (hl : (padP n 0 l).length + n ≤ 900000) (hll : l.length ≤ 800000) :
    Calls Tryd.prog 19 #[.string (tx l), .int .u64 (n : Nat)] w fun e w' => e = .returned (.string (tx (padL n l))) ∧ Below w.heap.size w w' := by
  have hs : Calls Tryd.prog 38 #[.string (tx l), .int .u64 (n : Nat)] w fun e w' => e = .returned (.string (tx (padL n l))) ∧ Below w.heap.size w w' := by
    obtain ⟨c, W, hcv, hb, ht⟩ := made_tx l w
    have HB := Go.Lib.hid hb
    have HI := Go.Lib.hid (pbytes_any n l (some ⟨w.heap.size, 0, none⟩) c W ht hp hn hl hll)
    obtain ⟨m, hm⟩ : ∃ m, m = l.length := ⟨_, rfl⟩
    rw [← hm] at HI hcv
    clear ht hp hl hll hb hm
    go_enter Tryd.func38, Tryd.ntmps38
    go_wp2_with fail
    refine HI.out.mono ?_
    rintro e w1 ⟨A, cap, rfl, t1, b1⟩
    have hcv2 := t1.2 w1 (Below.refl _ _)
    have B1 := Go.Lib.hid (HB.out.trans (b1.mono HB.out.size))
    clear t1 b1
    go_wp2_with fail
    go_returns
    exact ⟨rfl, B1.out⟩
  have HI := Go.Lib.hid hs
  clear hp hl hll hs
  go_enter Tryd.func19, Tryd.ntmps19
  go_wp2_with fail
  refine HI.out.mono ?_
  rintro e w1 ⟨rfl, b1⟩
  have B1 := Go.Lib.hid b1
  clear b1
  go_wp2_with fail
  go_returns
  exact ⟨rfl, B1.out⟩
end Go.Proofs.YtbibokkclejapaaDoor
