/- writeRune, ResetAnsi, RestoreAnsi over a padding.Writer. (Printed by gen/mkq.py.) -/
import Derived.Test.YtbibokkclejapaaDoorIndQ
namespace Go.Proofs.YtbibokkclejapaaDoor
open Go.RowKit
set_option linter.unusedVariables false
set_option linter.unusedSimpArgs false
variable {X : Nat → Prop}

def QRunePost (X : Nat → Prop) (B ab pw ab2 m : Nat) (l : List UInt8) (z : UInt8) (w : World) (e : Ending) (w' : World) : Prop :=
  e = .returned (.tuple #[.int .i64 1, .nilIface]) ∧ SP X B ab pw ab2 m w' (l ++ [z]) ∧ SOn X B ab pw ab2 w w'

set_option maxRecDepth 100000 in
set_option maxHeartbeats 1000000 in
/-- The end of writeRune: the sign's byte lies in the row. -/
theorem qrune_end (B ab pw ab2 m r : Nat) (l : List UInt8) (z : UInt8) (w : World) (h : SPc X B ab pw ab2 m (some r) w l) (hm : m ≤ 1000) (hl : (padP m 0 (l ++ [z])).length + m ≤ 900000) (hl2 : l.length + 1 ≤ 800000) (hzp : Pla [z]) :
    Calls Tryd.prog 72 #[.pointer (some ⟨ab, 0, none⟩), .int .i32 (z.toNat : Nat)] w (QRunePost X B ab pw ab2 m l z w) := by
  have hz : z.toNat < 128 := by
    rcases hzp z (by simp) with h | h
    · rw [h]; decide
    · omega
  obtain ⟨h1, h2, cur, h4, h5⟩ := h.rowR r rfl
  have k9 := h.c9
  have kz := h.lt.1
  obtain ⟨u, hu⟩ : ∃ u, w.cell? ⟨r, 0, none⟩ = some u := by
    refine ⟨cur[0]'(by omega), ?_⟩
    rw [World.cell?, h4]
    show cur[0]? = _
    exact Array.getElem?_eq_getElem _
  have hfr : w.frozen? ⟨r, 0, none⟩ = false := by rw [World.frozen?, h4]; rfl
  have henc := Go.Lib.hid (encode_ascii r 4 (z.toNat : Nat) w (by omega) (by omega) ⟨u, hu⟩ hfr)
  obtain ⟨hw2, ho2, hc2⟩ := h.rune (.int .u8 (z.toNat : Nat))
  obtain ⟨W, hW⟩ : ∃ W, W = w.setCell ⟨r, 0, none⟩ (.int .u8 (z.toNat : Nat)) := ⟨_, rfl⟩
  rw [← hW] at hw2 ho2 hc2 henc
  have d0 := hw2.c0
  have d9 := hw2.c9
  have dz := hw2.lt.1
  have hnil : ∀ W, (binOp .eql 51 (.slice (some ⟨r, 0, none⟩) 4 4) (.slice none 0 0)).run Tryd.prog W = .ok (.bool false) W := fun W => by kernel_rfl
  have hup : ∀ W : World, (Instr.slice 51 (.slice (some ⟨r, 0, none⟩) 4 4) none (some (.int .i64 1)) none).run Tryd.prog W = .ok (.slice (some ⟨r, 0, none⟩) 1 4) W := upto_run (some ⟨r, 0, none⟩) 4 4 1 1 (by rfl) (by omega)
  have HP : Hid (∀ W2 : World, Below W.heap.size W W2 → Calls Tryd.prog 42 #[.pointer (some ⟨pw, 0, none⟩), .slice (some ⟨r, 0, none⟩) 1 4] W2 fun e w' => e = .returned (.tuple #[.int .i64 1, .nilIface]) ∧ SPc X B ab pw ab2 m (some r) w' (l ++ [z]) ∧ SOn X B ab pw ab2 w w') := fun W2 hb => by
    have h2' := hw2.below hb
    have hrz := (hb.cell (p := ⟨r, 0, none⟩) (lt_of_cell hc2)).trans hc2
    have ht := text_at W2 r [z] 4 (fun j hj => by
      have : j = 0 := by simpa using hj
      subst this
      exact hrz) (lt_of_cell hrz)
    have hle := lnL_le l 0
    rw [padP_append, List.length_append] at hl
    refine (pw_write B pw ab2 pw 3 m (padP m 0 l) [z] (lnL 0 l) (some ⟨r, 0, none⟩) 4 W2 h2'.fwd hm ht hzp hl (by simp; omega)).mono ?_
    rintro e w' ⟨rfl, hf, ho⟩
    rw [← padP_append, ← lnL_append] at hf
    obtain ⟨k1, k2⟩ := h2'.iOn hf ho
    exact ⟨rfl, k1, ho2.trans ((SOn.of hb hw2.lt.2.2.1).trans k2)⟩
  clear h hw2 ho2 h4 hu hfr hW hc2
  unfold runeB at k9 d9
  go_enter Tryd.func72, Tryd.ntmps72
  go_wp2_with fail
  refine henc.out.mono ?_
  rintro e w2 ⟨rfl, rfl⟩
  have b0 : Below w2.heap.size w2 w2.drew := (Below.refl _ _).drew
  go_wp2_with fail
  refine region_held_tail 15 (S := (fun w' => w'.cell? ⟨ab, 0, none⟩ = some (.iface 59 (.pointer (some ⟨pw, 0, none⟩))) ∧ w'.cell? ⟨ab, 9, none⟩ = some (.slice (some ⟨r, 0, none⟩) 4 4))) (by kernel_rfl) (by kernel_rfl) ?_ (fun hHeld => ?_)
  · (try dsimp only); first | done | (first | exact ⟨d0, d9⟩ | exact ⟨e0, e9⟩)
  refine HeldT.take (i := 0) (v := ?_) (by simp only [List.getElem?_toArray, List.getElem?_cons_succ, List.getElem?_cons_zero]; rfl) (by kernel_rfl) (by kernel_rfl) (by kernel_rfl) (by kernel_rfl) (by exact fun _ _ _ h => h) ?_ (by assumption) ?_
  rotate_left
  · refine Or.inl ⟨by rfl, ?_⟩
    (intro w hSw; (try dsimp only at hSw); go_simp; try with_reducible rfl)
  try simp only [Act.put, List.setIfInBounds_toArray, List.set_cons_zero, List.set_cons_succ]
  refine HeldT.take (i := 1) (v := ?_) (by simp only [List.getElem?_toArray, List.getElem?_cons_succ, List.getElem?_cons_zero]; rfl) (by kernel_rfl) (by kernel_rfl) (by kernel_rfl) (by kernel_rfl) (by exact fun _ _ _ h => h) ?_ (by assumption) ?_
  rotate_left
  · refine Or.inl ⟨by rfl, ?_⟩
    (intro w hSw; (try dsimp only at hSw); go_simp; try with_reducible rfl)
  try simp only [Act.put, List.setIfInBounds_toArray, List.set_cons_zero, List.set_cons_succ]
  refine HeldT.take (i := 2) (v := ?_) (by simp only [List.getElem?_toArray, List.getElem?_cons_succ, List.getElem?_cons_zero]; rfl) (by kernel_rfl) (by kernel_rfl) (by kernel_rfl) (by kernel_rfl) (by exact fun _ _ _ h => h) ?_ (by assumption) ?_
  rotate_left
  · refine Or.inl ⟨by rfl, ?_⟩
    (intro w hSw; (try dsimp only at hSw); go_simp; try with_reducible rfl)
  try simp only [Act.put, List.setIfInBounds_toArray, List.set_cons_zero, List.set_cons_succ]
  refine HeldT.take (i := 3) (v := ?_) (by simp only [List.getElem?_toArray, List.getElem?_cons_succ, List.getElem?_cons_zero]; rfl) (by kernel_rfl) (by kernel_rfl) (by kernel_rfl) (by kernel_rfl) (by exact fun _ _ _ h => h) ?_ (by assumption) ?_
  rotate_left
  · refine Or.inl ⟨by rfl, ?_⟩
    (intro w hSw; (try dsimp only at hSw); go_simp; try with_reducible rfl)
  try simp only [Act.put, List.setIfInBounds_toArray, List.set_cons_zero, List.set_cons_succ]
  refine HeldT.take (i := 4) (v := ?_) (by simp only [List.getElem?_toArray, List.getElem?_cons_succ, List.getElem?_cons_zero]; rfl) (by kernel_rfl) (by kernel_rfl) (by kernel_rfl) (by kernel_rfl) (by exact fun _ _ _ h => h) ?_ (by assumption) ?_
  rotate_left
  · refine Or.inl ⟨by rfl, ?_⟩
    (intro w hSw; (try dsimp only at hSw); go_simp; try with_reducible rfl)
  try simp only [Act.put, List.setIfInBounds_toArray, List.set_cons_zero, List.set_cons_succ]
  refine HeldT.take (i := 5) (v := ?_) (by simp only [List.getElem?_toArray, List.getElem?_cons_succ, List.getElem?_cons_zero]; rfl) (by kernel_rfl) (by kernel_rfl) (by kernel_rfl) (by kernel_rfl) (by exact fun _ _ _ h => h) ?_ (by assumption) ?_
  rotate_left
  · refine Or.inl ⟨by rfl, ?_⟩
    (intro w hSw; (try dsimp only at hSw); go_simp; try with_reducible rfl)
  try simp only [Act.put, List.setIfInBounds_toArray, List.set_cons_zero, List.set_cons_succ]
  refine HeldT.take (i := 6) (v := ?_) (by simp only [List.getElem?_toArray, List.getElem?_cons_succ, List.getElem?_cons_zero]; rfl) (by kernel_rfl) (by kernel_rfl) (by kernel_rfl) (by kernel_rfl) (by exact fun _ _ _ h => h) ?_ (by assumption) ?_
  rotate_left
  · refine Or.inl ⟨by rfl, ?_⟩
    (intro w hSw; (try dsimp only at hSw); go_simp; try with_reducible rfl)
  try simp only [Act.put, List.setIfInBounds_toArray, List.set_cons_zero, List.set_cons_succ]
  refine HeldT.take (i := 7) (v := ?_) (by simp only [List.getElem?_toArray, List.getElem?_cons_succ, List.getElem?_cons_zero]; rfl) (by kernel_rfl) (by kernel_rfl) (by kernel_rfl) (by kernel_rfl) (by exact fun _ _ _ h => h) ?_ (by assumption) ?_
  rotate_left
  · refine Or.inl ⟨by rfl, ?_⟩
    (intro w hSw; (try dsimp only at hSw); go_simp; try with_reducible rfl)
  try simp only [Act.put, List.setIfInBounds_toArray, List.set_cons_zero, List.set_cons_succ]
  refine HeldT.take (i := 8) (v := ?_) (by simp only [List.getElem?_toArray, List.getElem?_cons_succ, List.getElem?_cons_zero]; rfl) (by kernel_rfl) (by kernel_rfl) (by kernel_rfl) (by kernel_rfl) (by exact fun _ _ _ h => h) ?_ (by assumption) ?_
  rotate_left
  · refine Or.inl ⟨by rfl, ?_⟩
    (intro w hSw; (try dsimp only at hSw); go_simp; try with_reducible rfl)
  try simp only [Act.put, List.setIfInBounds_toArray, List.set_cons_zero, List.set_cons_succ]
  refine HeldT.take (i := 9) (v := ?_) (by simp only [List.getElem?_toArray, List.getElem?_cons_succ, List.getElem?_cons_zero]; rfl) (by kernel_rfl) (by kernel_rfl) (by kernel_rfl) (by kernel_rfl) (by exact fun _ _ _ h => h) ?_ (by assumption) ?_
  rotate_left
  · refine Or.inl ⟨by rfl, ?_⟩
    (intro w hSw; (try dsimp only at hSw); go_simp; try with_reducible rfl)
  try simp only [Act.put, List.setIfInBounds_toArray, List.set_cons_zero, List.set_cons_succ]
  refine HeldT.take (i := 10) (v := ?_) (by simp only [List.getElem?_toArray, List.getElem?_cons_succ, List.getElem?_cons_zero]; rfl) (by kernel_rfl) (by kernel_rfl) (by kernel_rfl) (by kernel_rfl) (by exact fun _ _ _ h => h) ?_ (by assumption) ?_
  rotate_left
  · refine Or.inl ⟨by rfl, ?_⟩
    (intro w hSw; (try dsimp only at hSw); go_simp; try with_reducible rfl)
  try simp only [Act.put, List.setIfInBounds_toArray, List.set_cons_zero, List.set_cons_succ]
  refine HeldT.take (i := 11) (v := ?_) (by simp only [List.getElem?_toArray, List.getElem?_cons_succ, List.getElem?_cons_zero]; rfl) (by kernel_rfl) (by kernel_rfl) (by kernel_rfl) (by kernel_rfl) (by exact fun _ _ _ h => h) ?_ (by assumption) ?_
  rotate_left
  · refine Or.inl ⟨by rfl, ?_⟩
    (intro w hSw; (try dsimp only at hSw); go_simp; try with_reducible rfl)
  try simp only [Act.put, List.setIfInBounds_toArray, List.set_cons_zero, List.set_cons_succ]
  refine HeldT.one (i := 12) (by simp only [List.getElem?_toArray, List.getElem?_cons_succ, List.getElem?_cons_zero]; rfl) (by kernel_rfl) (by kernel_rfl) (fun K hK => ?_)
  go_simp
  ((refine (HP.out _ b0).mono ?_); rintro e w3 ⟨rfl, s3, o3⟩; have e0 := s3.c0; have e9 := s3.c9; have S3 := Go.Lib.hid s3; have O3 := Go.Lib.hid o3; clear s3 o3)
  try go_wp2_with fail
  refine hK.out _ _ ?_ (fun hHeld => ?_)
  · (try dsimp only); first | done | (first | exact ⟨d0, d9⟩ | exact ⟨e0, e9⟩)
  clear hK K
  try simp only [Act.put, List.setIfInBounds_toArray, List.set_cons_zero, List.set_cons_succ]
  refine HeldT.take (i := 13) (v := ?_) (by simp only [List.getElem?_toArray, List.getElem?_cons_succ, List.getElem?_cons_zero]; rfl) (by kernel_rfl) (by kernel_rfl) (by kernel_rfl) (by kernel_rfl) (by exact fun _ _ _ h => h) ?_ (by assumption) ?_
  rotate_left
  · refine Or.inl ⟨by rfl, ?_⟩
    (intro w hSw; (try dsimp only at hSw); go_simp; try with_reducible rfl)
  try simp only [Act.put, List.setIfInBounds_toArray, List.set_cons_zero, List.set_cons_succ]
  refine HeldT.take (i := 14) (v := ?_) (by simp only [List.getElem?_toArray, List.getElem?_cons_succ, List.getElem?_cons_zero]; rfl) (by kernel_rfl) (by kernel_rfl) (by kernel_rfl) (by kernel_rfl) (by exact fun _ _ _ h => h) ?_ (by assumption) ?_
  rotate_left
  · refine Or.inl ⟨by rfl, ?_⟩
    (intro w hSw; (try dsimp only at hSw); go_simp; try with_reducible rfl)
  try simp only [Act.put, List.setIfInBounds_toArray, List.set_cons_zero, List.set_cons_succ]
  refine HeldT.tail (by kernel_rfl) rfl ?_
  go_wp2_with fail
  go_returns
  exact ⟨rfl, ⟨some r, S3.out⟩, O3.out⟩
set_option maxRecDepth 100000 in
set_option maxHeartbeats 1000000 in
/-- writeRune of a writer that has no row for a sign's bytes yet. -/
theorem qrune_first (B ab pw ab2 m : Nat) (l : List UInt8) (z : UInt8) (w0 : World) (h0 : SPc X B ab pw ab2 m none w0 l) (hm : m ≤ 1000) (hl : (padP m 0 (l ++ [z])).length + m ≤ 900000) (hl2 : l.length + 1 ≤ 800000) (hzp : Pla [z]) :
    Calls Tryd.prog 72 #[.pointer (some ⟨ab, 0, none⟩), .int .i32 (z.toNat : Nat)] w0 (QRunePost X B ab pw ab2 m l z w0) := by
  obtain ⟨i0, hi, hz0, hz1, hz2⟩ := info_parts (show (Tryd.prog.info? 5).map (fun i => (i.zero, i.size, i.bytes)) = some (some (.int .u8 0), 1, 1) by kernel_rfl)
  obtain ⟨Z, hZ⟩ : ∃ Z, Z = madeCells (Value.int .u8 0).cells ((4 : Int).toNat * i0.size) := ⟨_, rfl⟩
  have hZs : Z.size = 4 := by rw [hZ, size_madeCells, hz1]; rfl
  have hmk : ∀ W : World, (Instr.makeSlice 51 (.int .i64 4) (.int .i64 4)).run Tryd.prog W = .ok (.slice (some ⟨W.heap.size, 0, none⟩) 4 4) (W.alloc (.cells Z 5)) := fun W => by
    have := run_make (P := Tryd.prog) W 51 5 i0 (.int .u8 0) Tryd.underlying51 hi hz0 .i64 .i64 4 4 (by omega) (by omega) (by rw [hz2]; decide) (by decide)
    rw [hZ]
    exact this
  have g9 := h0.c9
  have gz := h0.lt.1
  have gf := h0.fz 9
  obtain ⟨h, hoM⟩ := h0.made hZs
  obtain ⟨r, hr⟩ : ∃ r, r = w0.heap.size := ⟨_, rfl⟩
  rw [← hr] at h hoM
  obtain ⟨w, hw⟩ : ∃ w, w = (w0.alloc (.cells Z 5)).setCell ⟨ab, 9, none⟩ (.slice (some ⟨r, 0, none⟩) 4 4) := ⟨_, rfl⟩
  rw [← hw] at h hoM
  have hz : z.toNat < 128 := by
    rcases hzp z (by simp) with h | h
    · rw [h]; decide
    · omega
  obtain ⟨h1, h2, cur, h4, h5⟩ := h.rowR r rfl
  have k9 := h.c9
  have kz := h.lt.1
  obtain ⟨u, hu⟩ : ∃ u, w.cell? ⟨r, 0, none⟩ = some u := by
    refine ⟨cur[0]'(by omega), ?_⟩
    rw [World.cell?, h4]
    show cur[0]? = _
    exact Array.getElem?_eq_getElem _
  have hfr : w.frozen? ⟨r, 0, none⟩ = false := by rw [World.frozen?, h4]; rfl
  have henc := Go.Lib.hid (encode_ascii r 4 (z.toNat : Nat) w (by omega) (by omega) ⟨u, hu⟩ hfr)
  obtain ⟨hw2, ho2, hc2⟩ := h.rune (.int .u8 (z.toNat : Nat))
  obtain ⟨W, hW⟩ : ∃ W, W = w.setCell ⟨r, 0, none⟩ (.int .u8 (z.toNat : Nat)) := ⟨_, rfl⟩
  rw [← hW] at hw2 ho2 hc2 henc
  have d0 := hw2.c0
  have d9 := hw2.c9
  have dz := hw2.lt.1
  have hnil : ∀ W, (binOp .eql 51 (.slice (some ⟨r, 0, none⟩) 4 4) (.slice none 0 0)).run Tryd.prog W = .ok (.bool false) W := fun W => by kernel_rfl
  have hup : ∀ W : World, (Instr.slice 51 (.slice (some ⟨r, 0, none⟩) 4 4) none (some (.int .i64 1)) none).run Tryd.prog W = .ok (.slice (some ⟨r, 0, none⟩) 1 4) W := upto_run (some ⟨r, 0, none⟩) 4 4 1 1 (by rfl) (by omega)
  have HP : Hid (∀ W2 : World, Below W.heap.size W W2 → Calls Tryd.prog 42 #[.pointer (some ⟨pw, 0, none⟩), .slice (some ⟨r, 0, none⟩) 1 4] W2 fun e w' => e = .returned (.tuple #[.int .i64 1, .nilIface]) ∧ SPc X B ab pw ab2 m (some r) w' (l ++ [z]) ∧ SOn X B ab pw ab2 w0 w') := fun W2 hb => by
    have h2' := hw2.below hb
    have hrz := (hb.cell (p := ⟨r, 0, none⟩) (lt_of_cell hc2)).trans hc2
    have ht := text_at W2 r [z] 4 (fun j hj => by
      have : j = 0 := by simpa using hj
      subst this
      exact hrz) (lt_of_cell hrz)
    have hle := lnL_le l 0
    rw [padP_append, List.length_append] at hl
    refine (pw_write B pw ab2 pw 3 m (padP m 0 l) [z] (lnL 0 l) (some ⟨r, 0, none⟩) 4 W2 h2'.fwd hm ht hzp hl (by simp; omega)).mono ?_
    rintro e w' ⟨rfl, hf, ho⟩
    rw [← padP_append, ← lnL_append] at hf
    obtain ⟨k1, k2⟩ := h2'.iOn hf ho
    exact ⟨rfl, k1, hoM.trans (ho2.trans ((SOn.of hb hw2.lt.2.2.1).trans k2))⟩
  have hnil0 : ∀ W, (binOp .eql 51 (.slice none 0 0) (.slice none 0 0)).run Tryd.prog W = .ok (.bool true) W := fun W => by kernel_rfl
  clear h hw2 ho2 h4 hu hfr hW hc2 hi hz0 hz1 hz2 h0 hnil kz k9 cur h5
  unfold runeB at g9 d9
  have hcomm : (w0.alloc (.cells Z 5)).setCell ⟨ab, 9, none⟩ (.slice (some ⟨r, 0, none⟩) 4 4) = (w0.setCell ⟨ab, 9, none⟩ (.slice (some ⟨r, 0, none⟩) 4 4)).alloc (.cells Z 5) := by simp [go_sem, gz]
  rw [hw, hcomm, hr] at henc
  clear hoM hw hZ hZs hcomm h1 h2
  subst hr
  go_enter Tryd.func72, Tryd.ntmps72
  go_wp2_with fail
  refine henc.out.mono ?_
  rintro e w2 ⟨rfl, rfl⟩
  have b0 : Below w2.heap.size w2 w2.drew := (Below.refl _ _).drew
  go_wp2_with fail
  refine region_held_tail 15 (S := (fun w' => w'.cell? ⟨ab, 0, none⟩ = some (.iface 59 (.pointer (some ⟨pw, 0, none⟩))) ∧ w'.cell? ⟨ab, 9, none⟩ = some (.slice (some ⟨w0.heap.size, 0, none⟩) 4 4))) (by kernel_rfl) (by kernel_rfl) ?_ (fun hHeld => ?_)
  · (try dsimp only); first | done | (first | exact ⟨d0, d9⟩ | exact ⟨e0, e9⟩)
  refine HeldT.take (i := 0) (v := ?_) (by simp only [List.getElem?_toArray, List.getElem?_cons_succ, List.getElem?_cons_zero]; rfl) (by kernel_rfl) (by kernel_rfl) (by kernel_rfl) (by kernel_rfl) (by exact fun _ _ _ h => h) ?_ (by assumption) ?_
  rotate_left
  · refine Or.inl ⟨by rfl, ?_⟩
    (intro w hSw; (try dsimp only at hSw); go_simp; try with_reducible rfl)
  try simp only [Act.put, List.setIfInBounds_toArray, List.set_cons_zero, List.set_cons_succ]
  refine HeldT.take (i := 1) (v := ?_) (by simp only [List.getElem?_toArray, List.getElem?_cons_succ, List.getElem?_cons_zero]; rfl) (by kernel_rfl) (by kernel_rfl) (by kernel_rfl) (by kernel_rfl) (by exact fun _ _ _ h => h) ?_ (by assumption) ?_
  rotate_left
  · refine Or.inl ⟨by rfl, ?_⟩
    (intro w hSw; (try dsimp only at hSw); go_simp; try with_reducible rfl)
  try simp only [Act.put, List.setIfInBounds_toArray, List.set_cons_zero, List.set_cons_succ]
  refine HeldT.take (i := 2) (v := ?_) (by simp only [List.getElem?_toArray, List.getElem?_cons_succ, List.getElem?_cons_zero]; rfl) (by kernel_rfl) (by kernel_rfl) (by kernel_rfl) (by kernel_rfl) (by exact fun _ _ _ h => h) ?_ (by assumption) ?_
  rotate_left
  · refine Or.inl ⟨by rfl, ?_⟩
    (intro w hSw; (try dsimp only at hSw); go_simp; try with_reducible rfl)
  try simp only [Act.put, List.setIfInBounds_toArray, List.set_cons_zero, List.set_cons_succ]
  refine HeldT.take (i := 3) (v := ?_) (by simp only [List.getElem?_toArray, List.getElem?_cons_succ, List.getElem?_cons_zero]; rfl) (by kernel_rfl) (by kernel_rfl) (by kernel_rfl) (by kernel_rfl) (by exact fun _ _ _ h => h) ?_ (by assumption) ?_
  rotate_left
  · refine Or.inl ⟨by rfl, ?_⟩
    (intro w hSw; (try dsimp only at hSw); go_simp; try with_reducible rfl)
  try simp only [Act.put, List.setIfInBounds_toArray, List.set_cons_zero, List.set_cons_succ]
  refine HeldT.take (i := 4) (v := ?_) (by simp only [List.getElem?_toArray, List.getElem?_cons_succ, List.getElem?_cons_zero]; rfl) (by kernel_rfl) (by kernel_rfl) (by kernel_rfl) (by kernel_rfl) (by exact fun _ _ _ h => h) ?_ (by assumption) ?_
  rotate_left
  · refine Or.inl ⟨by rfl, ?_⟩
    (intro w hSw; (try dsimp only at hSw); go_simp; try with_reducible rfl)
  try simp only [Act.put, List.setIfInBounds_toArray, List.set_cons_zero, List.set_cons_succ]
  refine HeldT.take (i := 5) (v := ?_) (by simp only [List.getElem?_toArray, List.getElem?_cons_succ, List.getElem?_cons_zero]; rfl) (by kernel_rfl) (by kernel_rfl) (by kernel_rfl) (by kernel_rfl) (by exact fun _ _ _ h => h) ?_ (by assumption) ?_
  rotate_left
  · refine Or.inl ⟨by rfl, ?_⟩
    (intro w hSw; (try dsimp only at hSw); go_simp; try with_reducible rfl)
  try simp only [Act.put, List.setIfInBounds_toArray, List.set_cons_zero, List.set_cons_succ]
  refine HeldT.take (i := 6) (v := ?_) (by simp only [List.getElem?_toArray, List.getElem?_cons_succ, List.getElem?_cons_zero]; rfl) (by kernel_rfl) (by kernel_rfl) (by kernel_rfl) (by kernel_rfl) (by exact fun _ _ _ h => h) ?_ (by assumption) ?_
  rotate_left
  · refine Or.inl ⟨by rfl, ?_⟩
    (intro w hSw; (try dsimp only at hSw); go_simp; try with_reducible rfl)
  try simp only [Act.put, List.setIfInBounds_toArray, List.set_cons_zero, List.set_cons_succ]
  refine HeldT.take (i := 7) (v := ?_) (by simp only [List.getElem?_toArray, List.getElem?_cons_succ, List.getElem?_cons_zero]; rfl) (by kernel_rfl) (by kernel_rfl) (by kernel_rfl) (by kernel_rfl) (by exact fun _ _ _ h => h) ?_ (by assumption) ?_
  rotate_left
  · refine Or.inl ⟨by rfl, ?_⟩
    (intro w hSw; (try dsimp only at hSw); go_simp; try with_reducible rfl)
  try simp only [Act.put, List.setIfInBounds_toArray, List.set_cons_zero, List.set_cons_succ]
  refine HeldT.take (i := 8) (v := ?_) (by simp only [List.getElem?_toArray, List.getElem?_cons_succ, List.getElem?_cons_zero]; rfl) (by kernel_rfl) (by kernel_rfl) (by kernel_rfl) (by kernel_rfl) (by exact fun _ _ _ h => h) ?_ (by assumption) ?_
  rotate_left
  · refine Or.inl ⟨by rfl, ?_⟩
    (intro w hSw; (try dsimp only at hSw); go_simp; try with_reducible rfl)
  try simp only [Act.put, List.setIfInBounds_toArray, List.set_cons_zero, List.set_cons_succ]
  refine HeldT.take (i := 9) (v := ?_) (by simp only [List.getElem?_toArray, List.getElem?_cons_succ, List.getElem?_cons_zero]; rfl) (by kernel_rfl) (by kernel_rfl) (by kernel_rfl) (by kernel_rfl) (by exact fun _ _ _ h => h) ?_ (by assumption) ?_
  rotate_left
  · refine Or.inl ⟨by rfl, ?_⟩
    (intro w hSw; (try dsimp only at hSw); go_simp; try with_reducible rfl)
  try simp only [Act.put, List.setIfInBounds_toArray, List.set_cons_zero, List.set_cons_succ]
  refine HeldT.take (i := 10) (v := ?_) (by simp only [List.getElem?_toArray, List.getElem?_cons_succ, List.getElem?_cons_zero]; rfl) (by kernel_rfl) (by kernel_rfl) (by kernel_rfl) (by kernel_rfl) (by exact fun _ _ _ h => h) ?_ (by assumption) ?_
  rotate_left
  · refine Or.inl ⟨by rfl, ?_⟩
    (intro w hSw; (try dsimp only at hSw); go_simp; try with_reducible rfl)
  try simp only [Act.put, List.setIfInBounds_toArray, List.set_cons_zero, List.set_cons_succ]
  refine HeldT.take (i := 11) (v := ?_) (by simp only [List.getElem?_toArray, List.getElem?_cons_succ, List.getElem?_cons_zero]; rfl) (by kernel_rfl) (by kernel_rfl) (by kernel_rfl) (by kernel_rfl) (by exact fun _ _ _ h => h) ?_ (by assumption) ?_
  rotate_left
  · refine Or.inl ⟨by rfl, ?_⟩
    (intro w hSw; (try dsimp only at hSw); go_simp; try with_reducible rfl)
  try simp only [Act.put, List.setIfInBounds_toArray, List.set_cons_zero, List.set_cons_succ]
  refine HeldT.one (i := 12) (by simp only [List.getElem?_toArray, List.getElem?_cons_succ, List.getElem?_cons_zero]; rfl) (by kernel_rfl) (by kernel_rfl) (fun K hK => ?_)
  go_simp
  ((refine (HP.out _ b0).mono ?_); rintro e w3 ⟨rfl, s3, o3⟩; have e0 := s3.c0; have e9 := s3.c9; have S3 := Go.Lib.hid s3; have O3 := Go.Lib.hid o3; clear s3 o3)
  try go_wp2_with fail
  refine hK.out _ _ ?_ (fun hHeld => ?_)
  · (try dsimp only); first | done | (first | exact ⟨d0, d9⟩ | exact ⟨e0, e9⟩)
  clear hK K
  try simp only [Act.put, List.setIfInBounds_toArray, List.set_cons_zero, List.set_cons_succ]
  refine HeldT.take (i := 13) (v := ?_) (by simp only [List.getElem?_toArray, List.getElem?_cons_succ, List.getElem?_cons_zero]; rfl) (by kernel_rfl) (by kernel_rfl) (by kernel_rfl) (by kernel_rfl) (by exact fun _ _ _ h => h) ?_ (by assumption) ?_
  rotate_left
  · refine Or.inl ⟨by rfl, ?_⟩
    (intro w hSw; (try dsimp only at hSw); go_simp; try with_reducible rfl)
  try simp only [Act.put, List.setIfInBounds_toArray, List.set_cons_zero, List.set_cons_succ]
  refine HeldT.take (i := 14) (v := ?_) (by simp only [List.getElem?_toArray, List.getElem?_cons_succ, List.getElem?_cons_zero]; rfl) (by kernel_rfl) (by kernel_rfl) (by kernel_rfl) (by kernel_rfl) (by exact fun _ _ _ h => h) ?_ (by assumption) ?_
  rotate_left
  · refine Or.inl ⟨by rfl, ?_⟩
    (intro w hSw; (try dsimp only at hSw); go_simp; try with_reducible rfl)
  try simp only [Act.put, List.setIfInBounds_toArray, List.set_cons_zero, List.set_cons_succ]
  refine HeldT.tail (by kernel_rfl) rfl ?_
  go_wp2_with fail
  go_returns
  exact ⟨rfl, ⟨some w0.heap.size, S3.out⟩, O3.out⟩
theorem qrune_any (B ab pw ab2 m : Nat) (l : List UInt8) (z : UInt8) (w : World) (h : SP X B ab pw ab2 m w l) (hm : m ≤ 1000) (hl : (padP m 0 (l ++ [z])).length + m ≤ 900000) (hl2 : l.length + 1 ≤ 800000) (hzp : Pla [z]) :
    Calls Tryd.prog 72 #[.pointer (some ⟨ab, 0, none⟩), .int .i32 (z.toNat : Nat)] w (QRunePost X B ab pw ab2 m l z w) := by
  obtain ⟨R, h⟩ := h
  cases R with
  | none => exact qrune_first B ab pw ab2 m l z w h hm hl hl2 hzp
  | some r => exact qrune_end B ab pw ab2 m r l z w h hm hl hl2 hzp

theorem qreset_any (B ab pw ab2 m : Nat) (l : List UInt8) (w : World) (h : SP X B ab pw ab2 m w l) :
    Calls Tryd.prog 52 #[.pointer (some ⟨ab, 0, none⟩)] w fun e w' => e = .returned (.tuple #[]) ∧ w = w' := by
  obtain ⟨R, h⟩ := h
  have c8 := h.c8
  have hz := h.lt.1
  clear h
  go_enter Tryd.func52, Tryd.ntmps52
  go_wp2_with fail
  go_returns
  exact ⟨rfl, rfl⟩

set_option maxRecDepth 100000 in
set_option maxHeartbeats 1000000 in
theorem qrestore_any (B ab pw ab2 m : Nat) (l : List UInt8) (w : World) (h : SP X B ab pw ab2 m w l) (hm : m ≤ 1000) (hl : (padP m 0 l).length + m ≤ 900000) (hl2 : l.length ≤ 800000) :
    Calls Tryd.prog 55 #[.pointer (some ⟨ab, 0, none⟩)] w fun e w' => e = .returned (.tuple #[]) ∧ SP X B ab pw ab2 m w' l ∧ SOn X B ab pw ab2 w w' := by
  obtain ⟨R, h⟩ := h
  have d0 := h.c0
  have d5 := h.c5
  have d6 := h.c6
  have hz := h.lt.1
  have HB : Hid (∀ n, Calls Tryd.prog 70 #[.pointer (some ⟨ab, 5, none⟩)] (w.drewN n) fun e w' => e = .returned (.slice none 0 0) ∧ ∃ m, w' = (w.drewN n).drewN m) := fun n => bytes_none ab 5 (w.drewN n) d5 d6
  have HP : Hid (∀ n, Calls Tryd.prog 42 #[.pointer (some ⟨pw, 0, none⟩), .slice none 0 0] (w.drewN n) fun e w' => e = .returned (.tuple #[.int .i64 0, .nilIface]) ∧ SP X B ab pw ab2 m w' l ∧ SOn X B ab pw ab2 w w') := fun n => by
    have hb := below_drewN (Below.refl w.heap.size w) n
    have h2 := h.below hb
    have hle := lnL_le l 0
    refine (pw_write B pw ab2 pw 3 m (padP m 0 l) [] (lnL 0 l) none 0 (w.drewN n) h2.fwd hm (text_none _ 0) (fun c hc => by cases hc) (by simpa [padP] using hl) (by simp; omega)).mono ?_
    rintro e w' ⟨rfl, hf, ho⟩
    rw [← padP_append, ← lnL_append, List.append_nil] at hf
    obtain ⟨k1, k2⟩ := h2.iOn hf ho
    exact ⟨rfl, ⟨R, k1⟩, (SOn.of hb h.lt.2.2.1).trans k2⟩
  clear h d6 d5
  go_enter Tryd.func55, Tryd.ntmps55
  go_wp2_with fail
  refine region_quiet_free 10 4 (by kernel_rfl) (by kernel_rfl) ?_
  simp only [List.take_succ_cons, List.take_zero]
  repeat (go_big_quiet_step ((go_at_call 70; exact Calls.quiet_of (HB.out _))))
  refine wpQuiet_nil ?_
  intro _ hw'
  obtain ⟨nq, hw''⟩ := hw'
  subst hw''
  refine any_one (i := 10) (by simp only [List.getElem?_toArray, List.getElem?_cons_succ, List.getElem?_cons_zero]; rfl) (by kernel_rfl) (fun K hK => ?_)
  go_simp
  refine (HP.out _).mono ?_
  rintro e w3 ⟨rfl, s3, o3⟩
  have S3 := Go.Lib.hid s3
  have O3 := Go.Lib.hid o3
  clear s3 o3
  go_simp
  refine hK.out _ _ ?_
  clear hK K
  try simp only [Act.put, List.setIfInBounds_toArray, List.set_cons_zero, List.set_cons_succ]
  refine any_one (i := 11) (by simp only [List.getElem?_toArray, List.getElem?_cons_succ, List.getElem?_cons_zero]; rfl) (by kernel_rfl) (fun K hK => ?_)
  go_simp
  refine hK.out _ _ ?_
  clear hK K
  try simp only [Act.put, List.setIfInBounds_toArray, List.set_cons_zero, List.set_cons_succ]
  refine any_two (i := 12) (k := 13) (by simp only [List.getElem?_toArray, List.getElem?_cons_succ, List.getElem?_cons_zero]; rfl) (by simp only [List.getElem?_toArray, List.getElem?_cons_succ, List.getElem?_cons_zero]; rfl) (by kernel_rfl) (fun K hK => ?gA1) (fun K hK => ?gB1)
  case' gA1 =>
    go_simp
    refine hK.out _ _ ?_
    clear hK K
    try simp only [Act.put, List.setIfInBounds_toArray, List.set_cons_zero, List.set_cons_succ]
    refine any_one (i := 13) (by simp only [List.getElem?_toArray, List.getElem?_cons_succ, List.getElem?_cons_zero]; rfl) (by kernel_rfl) (fun K hK => ?_)
    go_simp
    refine hK.out _ _ ?_
    clear hK K
    try simp only [Act.put, List.setIfInBounds_toArray, List.set_cons_zero, List.set_cons_succ]
    refine any_nil (by kernel_rfl) ?_
  case' gB1 =>
    go_simp
    refine hK.out _ _ ?_
    clear hK K
    try simp only [Act.put, List.setIfInBounds_toArray, List.set_cons_zero, List.set_cons_succ]
    refine any_one (i := 12) (by simp only [List.getElem?_toArray, List.getElem?_cons_succ, List.getElem?_cons_zero]; rfl) (by kernel_rfl) (fun K hK => ?_)
    go_simp
    refine hK.out _ _ ?_
    clear hK K
    try simp only [Act.put, List.setIfInBounds_toArray, List.set_cons_zero, List.set_cons_succ]
    refine any_nil (by kernel_rfl) ?_
  all_goals
    go_wp2_with fail
    go_returns
    exact ⟨rfl, S3.out, O3.out⟩
end Go.Proofs.YtbibokkclejapaaDoor
