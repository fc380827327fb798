/- ansi.Writer's writeRune, ResetAnsi and RestoreAnsi, as long as no sequence is seen. -/
import Derived.Test.YtbibokkclejapaaDoorIndSw
import Derived.Test.YtbibokkclejapaaDoorHeldTail
import Derived.Laws.MakeOwn
namespace Go.Proofs.YtbibokkclejapaaDoor
open Go.RowKit
set_option linter.unusedVariables false
set_option linter.unusedSimpArgs false
variable {X : Nat → Prop}

def RunePost (X : Nat → Prop) (B ab b q : Nat) (l : List UInt8) (z : UInt8) (w : World) (e : Ending) (w' : World) : Prop :=
  e = .returned (.tuple #[.int .i64 1, .nilIface]) ∧ SW X B ab b q w' (l ++ [z]) ∧ On X B ab b q w w'

set_option maxRecDepth 100000 in
set_option maxHeartbeats 1000000 in
/-- The end of writeRune: the sign's byte lies in the row. -/
theorem rune_end (B ab b q r : Nat) (A : Option Addr) (l : List UInt8) (z : UInt8) (w : World) (h : SWc X B ab b q A (some r) w l) (hl : l.length ≤ 900000) (hz : z.toNat < 128) :
    Calls Tryd.prog 72 #[.pointer (some ⟨ab, 0, none⟩), .int .i32 (z.toNat : Nat)] w (RunePost X B ab b q l z w) := by
  obtain ⟨h1, h2, h3, cur, h4, h5⟩ := h.rowR r rfl
  have k9 := h.c9
  have kz := h.lt.2
  obtain ⟨u, hu⟩ : ∃ u, w.cell? ⟨r, 0, none⟩ = some u := by
    refine ⟨cur[0]'(by omega), ?_⟩
    rw [World.cell?, h4]
    show cur[0]? = _
    exact Array.getElem?_eq_getElem _
  have hfr : w.frozen? ⟨r, 0, none⟩ = false := by rw [World.frozen?, h4]; rfl
  have henc := Go.Lib.hid (encode_ascii r 4 (z.toNat : Nat) w (by omega) (by omega) ⟨u, hu⟩ hfr)
  obtain ⟨hw2, ho2, hc2⟩ := h.rune (.int .u8 (z.toNat : Nat))
  obtain ⟨W, hW⟩ : ∃ W, W = w.setCell ⟨r, 0, none⟩ (.int .u8 (z.toNat : Nat)) := ⟨_, rfl⟩
  rw [← hW] at hw2 ho2 hc2 henc
  have d0 := hw2.c0
  have d9 := hw2.c9
  have dz := hw2.lt.2
  have hnil : ∀ W, (binOp .eql 51 (.slice (some ⟨r, 0, none⟩) 4 4) (.slice none 0 0)).run Tryd.prog W = .ok (.bool false) W := fun W => by kernel_rfl
  have hup : ∀ W : World, (Instr.slice 51 (.slice (some ⟨r, 0, none⟩) 4 4) none (some (.int .i64 1)) none).run Tryd.prog W = .ok (.slice (some ⟨r, 0, none⟩) 1 4) W := upto_run (some ⟨r, 0, none⟩) 4 4 1 1 (by rfl) (by omega)
  have HP : Hid (∀ W2 : World, Below W.heap.size W W2 → Calls Tryd.prog 69 #[.pointer (some ⟨b, q, none⟩), .slice (some ⟨r, 0, none⟩) 1 4] W2 fun e w' => e = .returned (.tuple #[.int .i64 1, .nilIface]) ∧ (∃ A', SWc X B ab b q A' (some r) w' (l ++ [z])) ∧ On X B ab b q w w') := fun W2 hb => by
    have h2' := hw2.below hb
    obtain ⟨cap, hba⟩ := h2'.buf
    refine (buf_put b q A cap 4 l z ⟨r, 0, none⟩ W2 hba hl h3 ((hb.cell (p := ⟨r, 0, none⟩) (lt_of_cell hc2)).trans hc2)).mono ?_
    rintro e w' ⟨rfl, A', cap', hb', hf⟩
    obtain ⟨k1, k2⟩ := h2'.fr hb' hf
    exact ⟨rfl, ⟨A', k1⟩, ho2.trans ((On.of hb (Nat.le_trans h.hab (Nat.le_of_lt dz)) hw2.lt.1).trans k2)⟩
  clear h hw2 ho2 h4 hu hfr hW hc2
  unfold runeB at k9 d9
  go_enter Tryd.func72, Tryd.ntmps72
  go_wp2_with fail
  refine henc.out.mono ?_
  rintro e w2 ⟨rfl, rfl⟩
  have b0 : Below w2.heap.size w2 w2.drew := (Below.refl _ _).drew
  go_wp2_with fail
  refine region_held_tail 15 (S := (fun w' => w'.cell? ⟨ab, 0, none⟩ = some (.iface 58 (.pointer (some ⟨b, q, none⟩))) ∧ w'.cell? ⟨ab, 9, none⟩ = some (.slice (some ⟨r, 0, none⟩) 4 4))) (by kernel_rfl) (by kernel_rfl) ?_ (fun hHeld => ?_)
  · (try dsimp only); first | done | (first | exact ⟨d0, d9⟩ | exact ⟨e0, e9⟩)
  refine HeldT.take (i := 0) (v := ?_) (by simp only [List.getElem?_toArray, List.getElem?_cons_succ, List.getElem?_cons_zero]; rfl) (by kernel_rfl) (by kernel_rfl) (by kernel_rfl) (by kernel_rfl) (by exact fun _ _ _ h => h) ?_ (by assumption) ?_
  rotate_left
  · refine Or.inl ⟨by rfl, ?_⟩
    (intro w hSw; (try dsimp only at hSw); go_simp; try with_reducible rfl)
  try simp only [Act.put, List.setIfInBounds_toArray, List.set_cons_zero, List.set_cons_succ]
  refine HeldT.take (i := 1) (v := ?_) (by simp only [List.getElem?_toArray, List.getElem?_cons_succ, List.getElem?_cons_zero]; rfl) (by kernel_rfl) (by kernel_rfl) (by kernel_rfl) (by kernel_rfl) (by exact fun _ _ _ h => h) ?_ (by assumption) ?_
  rotate_left
  · refine Or.inl ⟨by rfl, ?_⟩
    (intro w hSw; (try dsimp only at hSw); go_simp; try with_reducible rfl)
  try simp only [Act.put, List.setIfInBounds_toArray, List.set_cons_zero, List.set_cons_succ]
  refine HeldT.take (i := 2) (v := ?_) (by simp only [List.getElem?_toArray, List.getElem?_cons_succ, List.getElem?_cons_zero]; rfl) (by kernel_rfl) (by kernel_rfl) (by kernel_rfl) (by kernel_rfl) (by exact fun _ _ _ h => h) ?_ (by assumption) ?_
  rotate_left
  · refine Or.inl ⟨by rfl, ?_⟩
    (intro w hSw; (try dsimp only at hSw); go_simp; try with_reducible rfl)
  try simp only [Act.put, List.setIfInBounds_toArray, List.set_cons_zero, List.set_cons_succ]
  refine HeldT.take (i := 3) (v := ?_) (by simp only [List.getElem?_toArray, List.getElem?_cons_succ, List.getElem?_cons_zero]; rfl) (by kernel_rfl) (by kernel_rfl) (by kernel_rfl) (by kernel_rfl) (by exact fun _ _ _ h => h) ?_ (by assumption) ?_
  rotate_left
  · refine Or.inl ⟨by rfl, ?_⟩
    (intro w hSw; (try dsimp only at hSw); go_simp; try with_reducible rfl)
  try simp only [Act.put, List.setIfInBounds_toArray, List.set_cons_zero, List.set_cons_succ]
  refine HeldT.take (i := 4) (v := ?_) (by simp only [List.getElem?_toArray, List.getElem?_cons_succ, List.getElem?_cons_zero]; rfl) (by kernel_rfl) (by kernel_rfl) (by kernel_rfl) (by kernel_rfl) (by exact fun _ _ _ h => h) ?_ (by assumption) ?_
  rotate_left
  · refine Or.inl ⟨by rfl, ?_⟩
    (intro w hSw; (try dsimp only at hSw); go_simp; try with_reducible rfl)
  try simp only [Act.put, List.setIfInBounds_toArray, List.set_cons_zero, List.set_cons_succ]
  refine HeldT.take (i := 5) (v := ?_) (by simp only [List.getElem?_toArray, List.getElem?_cons_succ, List.getElem?_cons_zero]; rfl) (by kernel_rfl) (by kernel_rfl) (by kernel_rfl) (by kernel_rfl) (by exact fun _ _ _ h => h) ?_ (by assumption) ?_
  rotate_left
  · refine Or.inl ⟨by rfl, ?_⟩
    (intro w hSw; (try dsimp only at hSw); go_simp; try with_reducible rfl)
  try simp only [Act.put, List.setIfInBounds_toArray, List.set_cons_zero, List.set_cons_succ]
  refine HeldT.take (i := 6) (v := ?_) (by simp only [List.getElem?_toArray, List.getElem?_cons_succ, List.getElem?_cons_zero]; rfl) (by kernel_rfl) (by kernel_rfl) (by kernel_rfl) (by kernel_rfl) (by exact fun _ _ _ h => h) ?_ (by assumption) ?_
  rotate_left
  · refine Or.inl ⟨by rfl, ?_⟩
    (intro w hSw; (try dsimp only at hSw); go_simp; try with_reducible rfl)
  try simp only [Act.put, List.setIfInBounds_toArray, List.set_cons_zero, List.set_cons_succ]
  refine HeldT.take (i := 7) (v := ?_) (by simp only [List.getElem?_toArray, List.getElem?_cons_succ, List.getElem?_cons_zero]; rfl) (by kernel_rfl) (by kernel_rfl) (by kernel_rfl) (by kernel_rfl) (by exact fun _ _ _ h => h) ?_ (by assumption) ?_
  rotate_left
  · refine Or.inl ⟨by rfl, ?_⟩
    (intro w hSw; (try dsimp only at hSw); go_simp; try with_reducible rfl)
  try simp only [Act.put, List.setIfInBounds_toArray, List.set_cons_zero, List.set_cons_succ]
  refine HeldT.take (i := 8) (v := ?_) (by simp only [List.getElem?_toArray, List.getElem?_cons_succ, List.getElem?_cons_zero]; rfl) (by kernel_rfl) (by kernel_rfl) (by kernel_rfl) (by kernel_rfl) (by exact fun _ _ _ h => h) ?_ (by assumption) ?_
  rotate_left
  · refine Or.inl ⟨by rfl, ?_⟩
    (intro w hSw; (try dsimp only at hSw); go_simp; try with_reducible rfl)
  try simp only [Act.put, List.setIfInBounds_toArray, List.set_cons_zero, List.set_cons_succ]
  refine HeldT.take (i := 9) (v := ?_) (by simp only [List.getElem?_toArray, List.getElem?_cons_succ, List.getElem?_cons_zero]; rfl) (by kernel_rfl) (by kernel_rfl) (by kernel_rfl) (by kernel_rfl) (by exact fun _ _ _ h => h) ?_ (by assumption) ?_
  rotate_left
  · refine Or.inl ⟨by rfl, ?_⟩
    (intro w hSw; (try dsimp only at hSw); go_simp; try with_reducible rfl)
  try simp only [Act.put, List.setIfInBounds_toArray, List.set_cons_zero, List.set_cons_succ]
  refine HeldT.take (i := 10) (v := ?_) (by simp only [List.getElem?_toArray, List.getElem?_cons_succ, List.getElem?_cons_zero]; rfl) (by kernel_rfl) (by kernel_rfl) (by kernel_rfl) (by kernel_rfl) (by exact fun _ _ _ h => h) ?_ (by assumption) ?_
  rotate_left
  · refine Or.inl ⟨by rfl, ?_⟩
    (intro w hSw; (try dsimp only at hSw); go_simp; try with_reducible rfl)
  try simp only [Act.put, List.setIfInBounds_toArray, List.set_cons_zero, List.set_cons_succ]
  refine HeldT.take (i := 11) (v := ?_) (by simp only [List.getElem?_toArray, List.getElem?_cons_succ, List.getElem?_cons_zero]; rfl) (by kernel_rfl) (by kernel_rfl) (by kernel_rfl) (by kernel_rfl) (by exact fun _ _ _ h => h) ?_ (by assumption) ?_
  rotate_left
  · refine Or.inl ⟨by rfl, ?_⟩
    (intro w hSw; (try dsimp only at hSw); go_simp; try with_reducible rfl)
  try simp only [Act.put, List.setIfInBounds_toArray, List.set_cons_zero, List.set_cons_succ]
  refine HeldT.one (i := 12) (by simp only [List.getElem?_toArray, List.getElem?_cons_succ, List.getElem?_cons_zero]; rfl) (by kernel_rfl) (by kernel_rfl) (fun K hK => ?_)
  go_simp
  ((refine (HP.out _ b0).mono ?_); rintro e w3 ⟨rfl, ⟨A3, s3⟩, o3⟩; have e0 := s3.c0; have e9 := s3.c9; have S3 := Go.Lib.hid s3; have O3 := Go.Lib.hid o3; clear s3 o3)
  try go_wp2_with fail
  refine hK.out _ _ ?_ (fun hHeld => ?_)
  · (try dsimp only); first | done | (first | exact ⟨d0, d9⟩ | exact ⟨e0, e9⟩)
  clear hK K
  try simp only [Act.put, List.setIfInBounds_toArray, List.set_cons_zero, List.set_cons_succ]
  refine HeldT.take (i := 13) (v := ?_) (by simp only [List.getElem?_toArray, List.getElem?_cons_succ, List.getElem?_cons_zero]; rfl) (by kernel_rfl) (by kernel_rfl) (by kernel_rfl) (by kernel_rfl) (by exact fun _ _ _ h => h) ?_ (by assumption) ?_
  rotate_left
  · refine Or.inl ⟨by rfl, ?_⟩
    (intro w hSw; (try dsimp only at hSw); go_simp; try with_reducible rfl)
  try simp only [Act.put, List.setIfInBounds_toArray, List.set_cons_zero, List.set_cons_succ]
  refine HeldT.take (i := 14) (v := ?_) (by simp only [List.getElem?_toArray, List.getElem?_cons_succ, List.getElem?_cons_zero]; rfl) (by kernel_rfl) (by kernel_rfl) (by kernel_rfl) (by kernel_rfl) (by exact fun _ _ _ h => h) ?_ (by assumption) ?_
  rotate_left
  · refine Or.inl ⟨by rfl, ?_⟩
    (intro w hSw; (try dsimp only at hSw); go_simp; try with_reducible rfl)
  try simp only [Act.put, List.setIfInBounds_toArray, List.set_cons_zero, List.set_cons_succ]
  refine HeldT.tail (by kernel_rfl) rfl ?_
  go_wp2_with fail
  go_returns
  exact ⟨rfl, ⟨A3, some r, S3.out⟩, O3.out⟩
set_option maxRecDepth 100000 in
set_option maxHeartbeats 1000000 in
/-- writeRune of a writer that has no row for a sign's bytes yet. -/
theorem rune_first (B ab b q : Nat) (A : Option Addr) (l : List UInt8) (z : UInt8) (w0 : World) (h0 : SWc X B ab b q A none w0 l) (hl : l.length ≤ 900000) (hz : z.toNat < 128) :
    Calls Tryd.prog 72 #[.pointer (some ⟨ab, 0, none⟩), .int .i32 (z.toNat : Nat)] w0 (RunePost X B ab b q l z w0) := by
  obtain ⟨i0, hi, hz0, hz1, hz2⟩ := info_parts (show (Tryd.prog.info? 5).map (fun i => (i.zero, i.size, i.bytes)) = some (some (.int .u8 0), 1, 1) by kernel_rfl)
  obtain ⟨Z, hZ⟩ : ∃ Z, Z = madeCells (Value.int .u8 0).cells ((4 : Int).toNat * i0.size) := ⟨_, rfl⟩
  have hZs : Z.size = 4 := by rw [hZ, size_madeCells, hz1]; rfl
  have hmk : ∀ W : World, (Instr.makeSlice 51 (.int .i64 4) (.int .i64 4)).run Tryd.prog W = .ok (.slice (some ⟨W.heap.size, 0, none⟩) 4 4) (W.alloc (.cells Z 5)) := fun W => by
    have := run_make (P := Tryd.prog) W 51 5 i0 (.int .u8 0) Tryd.underlying51 hi hz0 .i64 .i64 4 4 (by omega) (by omega) (by rw [hz2]; decide) (by decide)
    rw [hZ]
    exact this
  have g9 := h0.c9
  have gz := h0.lt.2
  have gf := h0.fz 9
  obtain ⟨h, hoM⟩ := h0.made hZs
  obtain ⟨r, hr⟩ : ∃ r, r = w0.heap.size := ⟨_, rfl⟩
  rw [← hr] at h hoM
  obtain ⟨w, hw⟩ : ∃ w, w = (w0.alloc (.cells Z 5)).setCell ⟨ab, 9, none⟩ (.slice (some ⟨r, 0, none⟩) 4 4) := ⟨_, rfl⟩
  rw [← hw] at h hoM
  obtain ⟨h1, h2, h3, cur, h4, h5⟩ := h.rowR r rfl
  have k9 := h.c9
  have kz := h.lt.2
  obtain ⟨u, hu⟩ : ∃ u, w.cell? ⟨r, 0, none⟩ = some u := by
    refine ⟨cur[0]'(by omega), ?_⟩
    rw [World.cell?, h4]
    show cur[0]? = _
    exact Array.getElem?_eq_getElem _
  have hfr : w.frozen? ⟨r, 0, none⟩ = false := by rw [World.frozen?, h4]; rfl
  have henc := Go.Lib.hid (encode_ascii r 4 (z.toNat : Nat) w (by omega) (by omega) ⟨u, hu⟩ hfr)
  obtain ⟨hw2, ho2, hc2⟩ := h.rune (.int .u8 (z.toNat : Nat))
  obtain ⟨W, hW⟩ : ∃ W, W = w.setCell ⟨r, 0, none⟩ (.int .u8 (z.toNat : Nat)) := ⟨_, rfl⟩
  rw [← hW] at hw2 ho2 hc2 henc
  have d0 := hw2.c0
  have d9 := hw2.c9
  have dz := hw2.lt.2
  have hnil : ∀ W, (binOp .eql 51 (.slice (some ⟨r, 0, none⟩) 4 4) (.slice none 0 0)).run Tryd.prog W = .ok (.bool false) W := fun W => by kernel_rfl
  have hup : ∀ W : World, (Instr.slice 51 (.slice (some ⟨r, 0, none⟩) 4 4) none (some (.int .i64 1)) none).run Tryd.prog W = .ok (.slice (some ⟨r, 0, none⟩) 1 4) W := upto_run (some ⟨r, 0, none⟩) 4 4 1 1 (by rfl) (by omega)
  have HP : Hid (∀ W2 : World, Below W.heap.size W W2 → Calls Tryd.prog 69 #[.pointer (some ⟨b, q, none⟩), .slice (some ⟨r, 0, none⟩) 1 4] W2 fun e w' => e = .returned (.tuple #[.int .i64 1, .nilIface]) ∧ (∃ A', SWc X B ab b q A' (some r) w' (l ++ [z])) ∧ On X B ab b q w0 w') := fun W2 hb => by
    have h2' := hw2.below hb
    obtain ⟨cap, hba⟩ := h2'.buf
    refine (buf_put b q A cap 4 l z ⟨r, 0, none⟩ W2 hba hl h3 ((hb.cell (p := ⟨r, 0, none⟩) (lt_of_cell hc2)).trans hc2)).mono ?_
    rintro e w' ⟨rfl, A', cap', hb', hf⟩
    obtain ⟨k1, k2⟩ := h2'.fr hb' hf
    exact ⟨rfl, ⟨A', k1⟩, hoM.trans (ho2.trans ((On.of hb (Nat.le_trans h.hab (Nat.le_of_lt dz)) hw2.lt.1).trans k2))⟩
  have hnil0 : ∀ W, (binOp .eql 51 (.slice none 0 0) (.slice none 0 0)).run Tryd.prog W = .ok (.bool true) W := fun W => by kernel_rfl
  clear h hw2 ho2 h4 hu hfr hW hc2 hi hz0 hz1 hz2 h0 hnil kz k9 cur h5
  unfold runeB at g9 d9
  have hcomm : (w0.alloc (.cells Z 5)).setCell ⟨ab, 9, none⟩ (.slice (some ⟨r, 0, none⟩) 4 4) = (w0.setCell ⟨ab, 9, none⟩ (.slice (some ⟨r, 0, none⟩) 4 4)).alloc (.cells Z 5) := by simp [go_sem, gz]
  rw [hw, hcomm, hr] at henc
  clear hoM hw hZ hZs hcomm h1 h2 h3
  subst hr
  go_enter Tryd.func72, Tryd.ntmps72
  go_wp2_with fail
  refine henc.out.mono ?_
  rintro e w2 ⟨rfl, rfl⟩
  have b0 : Below w2.heap.size w2 w2.drew := (Below.refl _ _).drew
  go_wp2_with fail
  refine region_held_tail 15 (S := (fun w' => w'.cell? ⟨ab, 0, none⟩ = some (.iface 58 (.pointer (some ⟨b, q, none⟩))) ∧ w'.cell? ⟨ab, 9, none⟩ = some (.slice (some ⟨w0.heap.size, 0, none⟩) 4 4))) (by kernel_rfl) (by kernel_rfl) ?_ (fun hHeld => ?_)
  · (try dsimp only); first | done | (first | exact ⟨d0, d9⟩ | exact ⟨e0, e9⟩)
  refine HeldT.take (i := 0) (v := ?_) (by simp only [List.getElem?_toArray, List.getElem?_cons_succ, List.getElem?_cons_zero]; rfl) (by kernel_rfl) (by kernel_rfl) (by kernel_rfl) (by kernel_rfl) (by exact fun _ _ _ h => h) ?_ (by assumption) ?_
  rotate_left
  · refine Or.inl ⟨by rfl, ?_⟩
    (intro w hSw; (try dsimp only at hSw); go_simp; try with_reducible rfl)
  try simp only [Act.put, List.setIfInBounds_toArray, List.set_cons_zero, List.set_cons_succ]
  refine HeldT.take (i := 1) (v := ?_) (by simp only [List.getElem?_toArray, List.getElem?_cons_succ, List.getElem?_cons_zero]; rfl) (by kernel_rfl) (by kernel_rfl) (by kernel_rfl) (by kernel_rfl) (by exact fun _ _ _ h => h) ?_ (by assumption) ?_
  rotate_left
  · refine Or.inl ⟨by rfl, ?_⟩
    (intro w hSw; (try dsimp only at hSw); go_simp; try with_reducible rfl)
  try simp only [Act.put, List.setIfInBounds_toArray, List.set_cons_zero, List.set_cons_succ]
  refine HeldT.take (i := 2) (v := ?_) (by simp only [List.getElem?_toArray, List.getElem?_cons_succ, List.getElem?_cons_zero]; rfl) (by kernel_rfl) (by kernel_rfl) (by kernel_rfl) (by kernel_rfl) (by exact fun _ _ _ h => h) ?_ (by assumption) ?_
  rotate_left
  · refine Or.inl ⟨by rfl, ?_⟩
    (intro w hSw; (try dsimp only at hSw); go_simp; try with_reducible rfl)
  try simp only [Act.put, List.setIfInBounds_toArray, List.set_cons_zero, List.set_cons_succ]
  refine HeldT.take (i := 3) (v := ?_) (by simp only [List.getElem?_toArray, List.getElem?_cons_succ, List.getElem?_cons_zero]; rfl) (by kernel_rfl) (by kernel_rfl) (by kernel_rfl) (by kernel_rfl) (by exact fun _ _ _ h => h) ?_ (by assumption) ?_
  rotate_left
  · refine Or.inl ⟨by rfl, ?_⟩
    (intro w hSw; (try dsimp only at hSw); go_simp; try with_reducible rfl)
  try simp only [Act.put, List.setIfInBounds_toArray, List.set_cons_zero, List.set_cons_succ]
  refine HeldT.take (i := 4) (v := ?_) (by simp only [List.getElem?_toArray, List.getElem?_cons_succ, List.getElem?_cons_zero]; rfl) (by kernel_rfl) (by kernel_rfl) (by kernel_rfl) (by kernel_rfl) (by exact fun _ _ _ h => h) ?_ (by assumption) ?_
  rotate_left
  · refine Or.inl ⟨by rfl, ?_⟩
    (intro w hSw; (try dsimp only at hSw); go_simp; try with_reducible rfl)
  try simp only [Act.put, List.setIfInBounds_toArray, List.set_cons_zero, List.set_cons_succ]
  refine HeldT.take (i := 5) (v := ?_) (by simp only [List.getElem?_toArray, List.getElem?_cons_succ, List.getElem?_cons_zero]; rfl) (by kernel_rfl) (by kernel_rfl) (by kernel_rfl) (by kernel_rfl) (by exact fun _ _ _ h => h) ?_ (by assumption) ?_
  rotate_left
  · refine Or.inl ⟨by rfl, ?_⟩
    (intro w hSw; (try dsimp only at hSw); go_simp; try with_reducible rfl)
  try simp only [Act.put, List.setIfInBounds_toArray, List.set_cons_zero, List.set_cons_succ]
  refine HeldT.take (i := 6) (v := ?_) (by simp only [List.getElem?_toArray, List.getElem?_cons_succ, List.getElem?_cons_zero]; rfl) (by kernel_rfl) (by kernel_rfl) (by kernel_rfl) (by kernel_rfl) (by exact fun _ _ _ h => h) ?_ (by assumption) ?_
  rotate_left
  · refine Or.inl ⟨by rfl, ?_⟩
    (intro w hSw; (try dsimp only at hSw); go_simp; try with_reducible rfl)
  try simp only [Act.put, List.setIfInBounds_toArray, List.set_cons_zero, List.set_cons_succ]
  refine HeldT.take (i := 7) (v := ?_) (by simp only [List.getElem?_toArray, List.getElem?_cons_succ, List.getElem?_cons_zero]; rfl) (by kernel_rfl) (by kernel_rfl) (by kernel_rfl) (by kernel_rfl) (by exact fun _ _ _ h => h) ?_ (by assumption) ?_
  rotate_left
  · refine Or.inl ⟨by rfl, ?_⟩
    (intro w hSw; (try dsimp only at hSw); go_simp; try with_reducible rfl)
  try simp only [Act.put, List.setIfInBounds_toArray, List.set_cons_zero, List.set_cons_succ]
  refine HeldT.take (i := 8) (v := ?_) (by simp only [List.getElem?_toArray, List.getElem?_cons_succ, List.getElem?_cons_zero]; rfl) (by kernel_rfl) (by kernel_rfl) (by kernel_rfl) (by kernel_rfl) (by exact fun _ _ _ h => h) ?_ (by assumption) ?_
  rotate_left
  · refine Or.inl ⟨by rfl, ?_⟩
    (intro w hSw; (try dsimp only at hSw); go_simp; try with_reducible rfl)
  try simp only [Act.put, List.setIfInBounds_toArray, List.set_cons_zero, List.set_cons_succ]
  refine HeldT.take (i := 9) (v := ?_) (by simp only [List.getElem?_toArray, List.getElem?_cons_succ, List.getElem?_cons_zero]; rfl) (by kernel_rfl) (by kernel_rfl) (by kernel_rfl) (by kernel_rfl) (by exact fun _ _ _ h => h) ?_ (by assumption) ?_
  rotate_left
  · refine Or.inl ⟨by rfl, ?_⟩
    (intro w hSw; (try dsimp only at hSw); go_simp; try with_reducible rfl)
  try simp only [Act.put, List.setIfInBounds_toArray, List.set_cons_zero, List.set_cons_succ]
  refine HeldT.take (i := 10) (v := ?_) (by simp only [List.getElem?_toArray, List.getElem?_cons_succ, List.getElem?_cons_zero]; rfl) (by kernel_rfl) (by kernel_rfl) (by kernel_rfl) (by kernel_rfl) (by exact fun _ _ _ h => h) ?_ (by assumption) ?_
  rotate_left
  · refine Or.inl ⟨by rfl, ?_⟩
    (intro w hSw; (try dsimp only at hSw); go_simp; try with_reducible rfl)
  try simp only [Act.put, List.setIfInBounds_toArray, List.set_cons_zero, List.set_cons_succ]
  refine HeldT.take (i := 11) (v := ?_) (by simp only [List.getElem?_toArray, List.getElem?_cons_succ, List.getElem?_cons_zero]; rfl) (by kernel_rfl) (by kernel_rfl) (by kernel_rfl) (by kernel_rfl) (by exact fun _ _ _ h => h) ?_ (by assumption) ?_
  rotate_left
  · refine Or.inl ⟨by rfl, ?_⟩
    (intro w hSw; (try dsimp only at hSw); go_simp; try with_reducible rfl)
  try simp only [Act.put, List.setIfInBounds_toArray, List.set_cons_zero, List.set_cons_succ]
  refine HeldT.one (i := 12) (by simp only [List.getElem?_toArray, List.getElem?_cons_succ, List.getElem?_cons_zero]; rfl) (by kernel_rfl) (by kernel_rfl) (fun K hK => ?_)
  go_simp
  ((refine (HP.out _ b0).mono ?_); rintro e w3 ⟨rfl, ⟨A3, s3⟩, o3⟩; have e0 := s3.c0; have e9 := s3.c9; have S3 := Go.Lib.hid s3; have O3 := Go.Lib.hid o3; clear s3 o3)
  try go_wp2_with fail
  refine hK.out _ _ ?_ (fun hHeld => ?_)
  · (try dsimp only); first | done | (first | exact ⟨d0, d9⟩ | exact ⟨e0, e9⟩)
  clear hK K
  try simp only [Act.put, List.setIfInBounds_toArray, List.set_cons_zero, List.set_cons_succ]
  refine HeldT.take (i := 13) (v := ?_) (by simp only [List.getElem?_toArray, List.getElem?_cons_succ, List.getElem?_cons_zero]; rfl) (by kernel_rfl) (by kernel_rfl) (by kernel_rfl) (by kernel_rfl) (by exact fun _ _ _ h => h) ?_ (by assumption) ?_
  rotate_left
  · refine Or.inl ⟨by rfl, ?_⟩
    (intro w hSw; (try dsimp only at hSw); go_simp; try with_reducible rfl)
  try simp only [Act.put, List.setIfInBounds_toArray, List.set_cons_zero, List.set_cons_succ]
  refine HeldT.take (i := 14) (v := ?_) (by simp only [List.getElem?_toArray, List.getElem?_cons_succ, List.getElem?_cons_zero]; rfl) (by kernel_rfl) (by kernel_rfl) (by kernel_rfl) (by kernel_rfl) (by exact fun _ _ _ h => h) ?_ (by assumption) ?_
  rotate_left
  · refine Or.inl ⟨by rfl, ?_⟩
    (intro w hSw; (try dsimp only at hSw); go_simp; try with_reducible rfl)
  try simp only [Act.put, List.setIfInBounds_toArray, List.set_cons_zero, List.set_cons_succ]
  refine HeldT.tail (by kernel_rfl) rfl ?_
  go_wp2_with fail
  go_returns
  exact ⟨rfl, ⟨A3, some w0.heap.size, S3.out⟩, O3.out⟩
end Go.Proofs.YtbibokkclejapaaDoor
