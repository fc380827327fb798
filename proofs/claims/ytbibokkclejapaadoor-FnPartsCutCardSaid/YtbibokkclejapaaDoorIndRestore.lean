/- ansi.Writer's writeRune as one, ResetAnsi and RestoreAnsi, as long as no sequence is seen. -/
import Derived.Test.YtbibokkclejapaaDoorIndRune
import Derived.Test.YtbibokkclejapaaDoorQuietFree
namespace Go.Proofs.YtbibokkclejapaaDoor
open Go.RowKit
set_option linter.unusedVariables false
set_option linter.unusedSimpArgs false
variable {X : Nat → Prop}

theorem rune_any (B ab b q : Nat) (l : List UInt8) (z : UInt8) (w : World) (h : SW X B ab b q w l) (hl : l.length ≤ 900000) (hz : z.toNat < 128) :
    Calls Tryd.prog 72 #[.pointer (some ⟨ab, 0, none⟩), .int .i32 (z.toNat : Nat)] w (RunePost X B ab b q l z w) := by
  obtain ⟨A, R, h⟩ := h
  cases R with
  | none => exact rune_first B ab b q A l z w h hl hz
  | some r => exact rune_end B ab b q r A l z w h hl hz

theorem reset_any (B ab b q : Nat) (l : List UInt8) (w : World) (h : SW X B ab b q w l) :
    Calls Tryd.prog 52 #[.pointer (some ⟨ab, 0, none⟩)] w fun e w' => e = .returned (.tuple #[]) ∧ w = w' := by
  obtain ⟨A, R, h⟩ := h
  have c8 := h.c8
  have hz := h.lt.2
  clear h
  go_enter Tryd.func52, Tryd.ntmps52
  go_wp2_with fail
  go_returns
  exact ⟨rfl, rfl⟩

theorem bytes_none (a o : Nat) (w : World) (c0 : w.cell? ⟨a, o, none⟩ = some (.slice none 0 0)) (c1 : w.cell? ⟨a, o + 1, none⟩ = some (.int .i64 0)) : Calls Tryd.prog 70 #[.pointer (some ⟨a, o, none⟩)] w fun e w' => e = .returned (.slice none 0 0) ∧ ∃ n, w' = w.drewN n := by
  have hz := lt_of_cell c0
  have hall := all_run none 0 0
  go_enter Tryd.func70, Tryd.ntmps70
  go_wp2_with fail
  go_quiet (fail)
  go_wp2_with fail
  go_returns
  exact ⟨rfl, _, rfl⟩

set_option maxRecDepth 100000 in
set_option maxHeartbeats 1000000 in
theorem restore_any (B ab b q : Nat) (l : List UInt8) (w : World) (h : SW X B ab b q w l) (hl : l.length ≤ 900000) :
    Calls Tryd.prog 55 #[.pointer (some ⟨ab, 0, none⟩)] w fun e w' => e = .returned (.tuple #[]) ∧ SW X B ab b q w' l ∧ On X B ab b q w w' := by
  obtain ⟨A, R, h⟩ := h
  have d0 := h.c0
  have d5 := h.c5
  have d6 := h.c6
  have hz := h.lt.2
  have HB : Hid (∀ n, Calls Tryd.prog 70 #[.pointer (some ⟨ab, 5, none⟩)] (w.drewN n) fun e w' => e = .returned (.slice none 0 0) ∧ ∃ m, w' = (w.drewN n).drewN m) := fun n => bytes_none ab 5 (w.drewN n) d5 d6
  have HP : Hid (∀ n, Calls Tryd.prog 69 #[.pointer (some ⟨b, q, none⟩), .slice none 0 0] (w.drewN n) fun e w' => e = .returned (.tuple #[.int .i64 0, .nilIface]) ∧ SW X B ab b q w' l ∧ On X B ab b q w w') := fun n => by
    have hb := below_drewN (Below.refl w.heap.size w) n
    have h2 := h.below hb
    obtain ⟨cap, hba⟩ := h2.buf
    refine (buf_none b q A cap l _ hba hl).mono ?_
    rintro e w' ⟨rfl, hb', hf⟩
    obtain ⟨k1, k2⟩ := h2.fr hb' hf
    exact ⟨rfl, ⟨A, R, k1⟩, (On.of hb (Nat.le_trans h.hab (Nat.le_of_lt hz)) h.lt.1).trans k2⟩
  clear h d6 d5
  go_enter Tryd.func55, Tryd.ntmps55
  go_wp2_with fail
  refine region_quiet_free 10 4 (by kernel_rfl) (by kernel_rfl) ?_
  simp only [List.take_succ_cons, List.take_zero]
  repeat (go_big_quiet_step ((go_at_call 70; exact Calls.quiet_of (HB.out _))))
  refine wpQuiet_nil ?_
  intro _ hw'
  obtain ⟨nq, hw''⟩ := hw'
  subst hw''
  refine any_one (i := 10) (by simp only [List.getElem?_toArray, List.getElem?_cons_succ, List.getElem?_cons_zero]; rfl) (by kernel_rfl) (fun K hK => ?_)
  go_simp
  refine (HP.out _).mono ?_
  rintro e w3 ⟨rfl, s3, o3⟩
  have S3 := Go.Lib.hid s3
  have O3 := Go.Lib.hid o3
  clear s3 o3
  go_simp
  refine hK.out _ _ ?_
  clear hK K
  try simp only [Act.put, List.setIfInBounds_toArray, List.set_cons_zero, List.set_cons_succ]
  refine any_one (i := 11) (by simp only [List.getElem?_toArray, List.getElem?_cons_succ, List.getElem?_cons_zero]; rfl) (by kernel_rfl) (fun K hK => ?_)
  go_simp
  refine hK.out _ _ ?_
  clear hK K
  try simp only [Act.put, List.setIfInBounds_toArray, List.set_cons_zero, List.set_cons_succ]
  refine any_two (i := 12) (k := 13) (by simp only [List.getElem?_toArray, List.getElem?_cons_succ, List.getElem?_cons_zero]; rfl) (by simp only [List.getElem?_toArray, List.getElem?_cons_succ, List.getElem?_cons_zero]; rfl) (by kernel_rfl) (fun K hK => ?gA1) (fun K hK => ?gB1)
  case' gA1 =>
    go_simp
    refine hK.out _ _ ?_
    clear hK K
    try simp only [Act.put, List.setIfInBounds_toArray, List.set_cons_zero, List.set_cons_succ]
    refine any_one (i := 13) (by simp only [List.getElem?_toArray, List.getElem?_cons_succ, List.getElem?_cons_zero]; rfl) (by kernel_rfl) (fun K hK => ?_)
    go_simp
    refine hK.out _ _ ?_
    clear hK K
    try simp only [Act.put, List.setIfInBounds_toArray, List.set_cons_zero, List.set_cons_succ]
    refine any_nil (by kernel_rfl) ?_
  case' gB1 =>
    go_simp
    refine hK.out _ _ ?_
    clear hK K
    try simp only [Act.put, List.setIfInBounds_toArray, List.set_cons_zero, List.set_cons_succ]
    refine any_one (i := 12) (by simp only [List.getElem?_toArray, List.getElem?_cons_succ, List.getElem?_cons_zero]; rfl) (by kernel_rfl) (fun K hK => ?_)
    go_simp
    refine hK.out _ _ ?_
    clear hK K
    try simp only [Act.put, List.setIfInBounds_toArray, List.set_cons_zero, List.set_cons_succ]
    refine any_nil (by kernel_rfl) ?_
  all_goals
    go_wp2_with fail
    go_returns
    exact ⟨rfl, S3.out, O3.out⟩
end Go.Proofs.YtbibokkclejapaaDoor
