/- impl.keyed at more steps (printed by wip/gen/mkkeymore.py). -/
import Derived.Test.YtoimdbmjpkmkfaaDoorPutsKeys
namespace Go.Proofs.YtoimdbmjpkmkfaaDoor
open Go.RowKit
set_option linter.unusedVariables false
set_option linter.unusedSimpArgs false

theorem end_cl (rb N : Nat) (l : List Int) (k : Nat) (kept : List Int) (w : World) (h : RB w rb l k kept) (hN : Cap w rb N) (hk : k ≤ l.length) (hl : l.length ≤ 100000) :
    Calls Tryd.prog 54 #[.pointer (some ⟨N, 0, none⟩)] w fun e w' => e = .returned (.tuple #[]) ∧ (RB w' rb l l.length kept ∧ Own rb w w') := by
  obtain ⟨A, cap, B, cap2, hv⟩ := h
  have HV := Go.Lib.hid hv
  have HN := Go.Lib.hid hN
  have hle := hv.r0.le
  obtain ⟨c0, c1, -, -, -, -, f, sz, -⟩ := hv
  obtain ⟨cN, ltN, neN, -⟩ := hN
  have f1 := f 1
  have f0 := f 0
  clear f
  by_cases e : k = l.length
  · have e' : ((k : Int) == (l.length : Int)) = true := by simp; omega
    have HE : Hid (k = l.length) := e
    clear e
    go_enter Tryd.func54, Tryd.ntmps54
    go_wp2_with fail
    go_quiet (fail)
    go_wp2_with fail
    go_returns
    exact ⟨rfl, by rw [← HE.out]; exact ⟨_, _, _, _, HV.out.below (below_drewN (Below.refl _ _) _)⟩, (Own.refl _ _).drewN _⟩
  · have e' : ((k : Int) == (l.length : Int)) = false := by rw [beq_eq_false_iff_ne]; omega
    clear e
    go_enter Tryd.func54, Tryd.ntmps54
    go_wp2_with fail
    go_quiet (fail)
    obtain ⟨wq, hwq⟩ : ∃ wq, wq = w.drewN nq := ⟨_, rfl⟩
    have VQ : Hid (RBv wq rb l k kept A cap B cap2) := hwq ▸ HV.out.below (below_drewN (Below.refl _ _) _)
    have OQ : Hid (Own rb w wq) := hwq ▸ (Own.refl _ _).drewN _
    rw [← hwq]
    have CQ : Hid (Cap wq rb N) := HN.out.own OQ.out
    have a0 := VQ.out.c0
    have a1 := VQ.out.c1
    have aN := CQ.out.c
    have g1 := VQ.out.f 1
    have sq := VQ.out.sz
    clear hwq c0 c1 cN f1 f0 sz
    go_wp2_with fail
    refine region_quiet_tail 6 (by kernel_rfl) (by kernel_rfl) ?_
    simp only [List.take_succ_cons, List.take_zero, List.drop_succ_cons, List.drop_zero]
    repeat (go_big_quiet_step (fail))
    refine wpQuiet_nil ?_
    intro _ hw'
    obtain ⟨nq, hw''⟩ := hw'
    subst hw''
    go_wp2_with fail
    go_returns
    exact ⟨rfl, ⟨_, _, _, _, (VQ.out.below (below_drewN (Below.refl _ _) nq)).idx l.length⟩, (OQ.out.drewN _).set _ _⟩

theorem backspace_none_cl (rb N : Nat) (l : List Int) (k : Nat) (kept : List Int) (w : World) (h : RB w rb l k kept) (hN : Cap w rb N) (hk0 : k = 0) (hl : l.length ≤ 100000) :
    Calls Tryd.prog 57 #[.pointer (some ⟨N, 0, none⟩)] w fun e w' => e = .returned (.tuple #[]) ∧ (RB w' rb l k kept ∧ Own rb w w') := by
  obtain ⟨A, cap, B, cap2, hv⟩ := h
  have HV := Go.Lib.hid hv
  have HN := Go.Lib.hid hN
  have hle := hv.r0.le
  obtain ⟨c0, c1, -, -, -, -, f, sz, -⟩ := hv
  obtain ⟨cN, ltN, neN, -⟩ := hN
  have f1 := f 1
  have f0 := f 0
  clear f
  subst hk0
  have c1' : w.cell? ⟨rb, 1, none⟩ = some (.int .i64 0) := c1
  clear c1
  go_enter Tryd.func57, Tryd.ntmps57
  go_wp2_with fail
  go_returns
  exact ⟨rfl, ⟨_, _, _, _, HV.out⟩, Own.refl _ _⟩

theorem end_any (rb : Nat) (l : List Int) (k : Nat) (kept : List Int) (w : World) (h : RB w rb l k kept) (hk : k ≤ l.length) (hl : l.length ≤ 100000) :
    Calls Tryd.prog 37 #[.pointer (some ⟨rb, 0, none⟩)] w fun e w' => e = .returned (.tuple #[]) ∧ (RB w' rb l l.length kept ∧ Own rb w w') := by
  have eg : ∀ args w, (callFunc 54 args).run Tryd.prog w = .ok (.enter 54 args) w := fun _ _ => by kernel_rfl
  have hmf : ∀ (fn : Fn) (first cap : Array Value) (w : World), (Instr.makeFunc fn first cap).run Tryd.prog w = .ok (.func fn first cap) w := fun _ _ _ _ => rfl
  have hsz : rb < w.heap.size := by obtain ⟨_, _, _, _, h⟩ := h; exact h.sz
  have HR := Go.Lib.hid (refresh rb 54 #[.pointer (some ⟨w.heap.size, 0, none⟩)] (w.alloc (.cells #[.pointer (some ⟨rb, 0, none⟩)] 46)) _ eg
    (end_cl rb w.heap.size l k kept _ (h.below ((Below.refl _ _).alloc (Nat.le_refl _) _)) (cap_new w rb _ (by decide) hsz) hk hl))
  clear h eg
  go_enter Tryd.func37, Tryd.ntmps37
  go_wp2_with fail
  refine HR.out.mono ?_
  rintro e w1 ⟨rfl, h1, o1⟩
  have H1 := Go.Lib.hid h1
  clear h1
  go_wp2_with fail
  go_returns
  exact ⟨rfl, H1.out, ((Own.refl _ _).alloc _).trans o1⟩

theorem backspace_none_any (rb : Nat) (l : List Int) (k : Nat) (kept : List Int) (w : World) (h : RB w rb l k kept) (hk : k ≤ l.length) (h0 : k = 0) (hl : l.length ≤ 100000) :
    Calls Tryd.prog 40 #[.pointer (some ⟨rb, 0, none⟩)] w fun e w' => e = .returned (.tuple #[]) ∧ (RB w' rb l k kept ∧ Own rb w w') := by
  have eg : ∀ args w, (callFunc 57 args).run Tryd.prog w = .ok (.enter 57 args) w := fun _ _ => by kernel_rfl
  have hmf : ∀ (fn : Fn) (first cap : Array Value) (w : World), (Instr.makeFunc fn first cap).run Tryd.prog w = .ok (.func fn first cap) w := fun _ _ _ _ => rfl
  have hsz : rb < w.heap.size := by obtain ⟨_, _, _, _, h⟩ := h; exact h.sz
  have HR := Go.Lib.hid (refresh rb 57 #[.pointer (some ⟨w.heap.size, 0, none⟩)] (w.alloc (.cells #[.pointer (some ⟨rb, 0, none⟩)] 46)) _ eg
    (backspace_none_cl rb w.heap.size l k kept _ (h.below ((Below.refl _ _).alloc (Nat.le_refl _) _)) (cap_new w rb _ (by decide) hsz) h0 hl))
  clear h eg
  go_enter Tryd.func40, Tryd.ntmps40
  go_wp2_with fail
  refine HR.out.mono ?_
  rintro e w1 ⟨rfl, h1, o1⟩
  have H1 := Go.Lib.hid h1
  clear h1
  go_wp2_with fail
  go_returns
  exact ⟨rfl, H1.out, ((Own.refl _ _).alloc _).trans o1⟩

theorem yank_none_any (rb : Nat) (l : List Int) (k : Nat) (w : World) (h : RB w rb l k []) (hl : l.length ≤ 100000) :
    Calls Tryd.prog 70 #[.pointer (some ⟨rb, 0, none⟩)] w fun e w' => e = .returned (.tuple #[]) ∧ (RB w' rb l k [] ∧ Own rb w w') := by
  have H1 : Hid (RB (w.alloc (.cells #[.pointer (some ⟨rb, 0, none⟩)] 46)) rb l k []) := h.below ((Below.refl _ _).alloc (Nat.le_refl _) _)
  obtain ⟨A, cap, B, cap2, hv⟩ := H1.out
  have c10 : (w.alloc (.cells #[.pointer (some ⟨rb, 0, none⟩)] 46)).cell? ⟨rb, 10, none⟩ = some (.slice B 0 cap2) := hv.c10
  clear hv h
  go_enter Tryd.func70, Tryd.ntmps70
  go_wp2_with fail
  go_returns
  exact ⟨rfl, H1.out, (Own.refl _ _).alloc _⟩

set_option maxHeartbeats 2000000 in
theorem erase_cl (rb N : Nat) (l : List Int) (k : Nat) (kept : List Int) (w : World) (h : RB w rb l k kept) (hN : Cap w rb N) (hl : l.length ≤ 100000) :
    Calls Tryd.prog 59 #[.pointer (some ⟨N, 0, none⟩)] w fun e w' => e = .returned (.tuple #[]) ∧ (RB w' rb [] 0 l ∧ Own rb w w') := by
  obtain ⟨A, cap, B, cap2, hv⟩ := h
  have HV0 : Hid (RBv (w.setCell ⟨rb, 1, none⟩ (.int .i64 0)) rb l 0 kept A cap B cap2) := hv.idx 0
  have HO0 : Hid (Own rb w (w.setCell ⟨rb, 1, none⟩ (.int .i64 0))) := (Own.refl _ _).set _ _
  have HN := Go.Lib.hid hN
  have hle := hv.r0.le
  obtain ⟨c0, c1, -, -, -, -, f, sz, -⟩ := hv
  obtain ⟨cN, ltN, neN, -⟩ := hN
  have f1 := f 1
  have hs1 : ∀ W, (Instr.slice 38 (.slice A l.length cap) none none none).run Tryd.prog W = .ok (.slice A l.length cap) W := fun W => by
    have he : Tryd.prog.elem 38 = 21 := by simp [Program.elem, Tryd.underlying38]
    cases A <;> simp [go_sem, he, Tryd.underlying38, sizeI]
  have hs2 := up_run A l.length cap 0 (Nat.zero_le _)
  clear f
  go_enter Tryd.func59, Tryd.ntmps59
  go_wp2_with fail
  obtain ⟨we, hwe⟩ : ∃ we, we = w.setCell ⟨rb, 1, none⟩ (.int .i64 0) := ⟨_, rfl⟩
  rw [← hwe] at HV0 HO0 ⊢
  have CE : Hid (Cap we rb N) := HN.out.own HO0.out
  have a0 := HV0.out.c0
  have aN := CE.out.c
  have sq := HV0.out.sz
  clear hwe c0 c1 cN f1 sz
  refine region_quiet_tail 6 (by kernel_rfl) (by kernel_rfl) ?_
  simp only [List.take_succ_cons, List.take_zero, List.drop_succ_cons, List.drop_zero]
  repeat (go_big_quiet_step (fail))
  refine wpQuiet_nil ?_
  intro _ hw'
  obtain ⟨nq, hw''⟩ := hw'
  subst hw''
  have HV1 : Hid (RBv (we.drewN nq) rb l 0 kept A cap B cap2) := HV0.out.below (below_drewN (Below.refl _ _) _)
  go_wp2_with fail
  refine (push_kill HV1.out A l.length cap l HV1.out.r0.src hl).mono ?_
  rintro e w1 ⟨rfl, ⟨B', cap', h1⟩, o1⟩
  have H1 := Go.Lib.hid h1
  have O1 : Hid (Own rb w w1) := (HO0.out.drewN nq).trans o1
  have C1 : Hid (Cap w1 rb N) := HN.out.own O1.out
  clear h1 o1 a0 aN sq
  have a0 := H1.out.c0
  have f0 := H1.out.f 0
  have aN := C1.out.c
  have sq := H1.out.sz
  go_wp2_with fail
  refine region_quiet_tail 6 (by kernel_rfl) (by kernel_rfl) ?_
  simp only [List.take_succ_cons, List.take_zero, List.drop_succ_cons, List.drop_zero]
  repeat (go_big_quiet_step (fail))
  refine wpQuiet_nil ?_
  intro _ hw'
  obtain ⟨nq, hw''⟩ := hw'
  subst hw''
  go_wp2_with fail
  go_returns
  have hv2 := (H1.out.below (below_drewN (Below.refl w1.heap.size w1) nq)).buf ((H1.out.below (below_drewN (Below.refl w1.heap.size w1) nq)).r0.take 0 (Nat.zero_le _)) H1.out.ap
  exact ⟨rfl, ⟨_, _, _, _, hv2⟩, (O1.out.drewN _).set _ _⟩

theorem erase_any (rb : Nat) (l : List Int) (k : Nat) (kept : List Int) (w : World) (h : RB w rb l k kept) (hk : k ≤ l.length) (hl : l.length ≤ 100000) :
    Calls Tryd.prog 42 #[.pointer (some ⟨rb, 0, none⟩)] w fun e w' => e = .returned (.tuple #[]) ∧ (RB w' rb [] 0 l ∧ Own rb w w') := by
  have eg : ∀ args w, (callFunc 59 args).run Tryd.prog w = .ok (.enter 59 args) w := fun _ _ => by kernel_rfl
  have hmf : ∀ (fn : Fn) (first cap : Array Value) (w : World), (Instr.makeFunc fn first cap).run Tryd.prog w = .ok (.func fn first cap) w := fun _ _ _ _ => rfl
  have hsz : rb < w.heap.size := by obtain ⟨_, _, _, _, h⟩ := h; exact h.sz
  have HR := Go.Lib.hid (refresh rb 59 #[.pointer (some ⟨w.heap.size, 0, none⟩)] (w.alloc (.cells #[.pointer (some ⟨rb, 0, none⟩)] 46)) _ eg
    (erase_cl rb w.heap.size l k kept _ (h.below ((Below.refl _ _).alloc (Nat.le_refl _) _)) (cap_new w rb _ (by decide) hsz) hl))
  clear h eg
  go_enter Tryd.func42, Tryd.ntmps42
  go_wp2_with fail
  refine HR.out.mono ?_
  rintro e w1 ⟨rfl, h1, o1⟩
  have H1 := Go.Lib.hid h1
  clear h1
  go_wp2_with fail
  go_returns
  exact ⟨rfl, H1.out, ((Own.refl _ _).alloc _).trans o1⟩

theorem key_erase (l : List Int) (k : Nat) (kept : List Int) (hk : k ≤ l.length) (hl : l.length ≤ 100000) (s : ByteArray) (n : Int) (f b : Bool) : KeyOk ⟨9, s, n, f, b⟩ l k kept (-1) [] 0 l := fun rb w h => by
  have H : Hid (RB (w.alloc (.cells #[.int .i64 9, .string s, .int .i64 n, .bool f, .bool b] 30)) rb l k kept) := h.below ((Below.refl _ _).alloc (Nat.le_refl _) _)
  clear h
  unfold Ky.val
  go_enter Tryd.func23, Tryd.ntmps23
  go_wp2_with fail
  refine (erase_any rb l k kept _ H.out hk hl).mono ?_
  rintro e w1 ⟨rfl, h1, o1⟩
  have H1 := Go.Lib.hid h1
  clear h1
  go_wp2_with fail
  go_returns
  exact ⟨rfl, H1.out, ((Own.refl _ _).alloc _).trans o1⟩

theorem key_end (l : List Int) (k : Nat) (kept : List Int) (hk : k ≤ l.length) (hl : l.length ≤ 100000) (s : ByteArray) (n : Int) (f b : Bool) : KeyOk ⟨5, s, n, f, b⟩ l k kept (-1) l l.length kept := fun rb w h => by
  have H : Hid (RB (w.alloc (.cells #[.int .i64 5, .string s, .int .i64 n, .bool f, .bool b] 30)) rb l k kept) := h.below ((Below.refl _ _).alloc (Nat.le_refl _) _)
  clear h
  unfold Ky.val
  go_enter Tryd.func23, Tryd.ntmps23
  go_wp2_with fail
  refine (end_any rb l k kept _ H.out hk hl).mono ?_
  rintro e w1 ⟨rfl, h1, o1⟩
  have H1 := Go.Lib.hid h1
  clear h1
  go_wp2_with fail
  go_returns
  exact ⟨rfl, H1.out, ((Own.refl _ _).alloc _).trans o1⟩

theorem key_backspace_none (l : List Int) (k : Nat) (kept : List Int) (hk : k ≤ l.length) (hl : l.length ≤ 100000) (h0 : k = 0) (s : ByteArray) (n : Int) (f b : Bool) : KeyOk ⟨7, s, n, f, b⟩ l k kept (-1) l k kept := fun rb w h => by
  have H : Hid (RB (w.alloc (.cells #[.int .i64 7, .string s, .int .i64 n, .bool f, .bool b] 30)) rb l k kept) := h.below ((Below.refl _ _).alloc (Nat.le_refl _) _)
  clear h
  unfold Ky.val
  go_enter Tryd.func23, Tryd.ntmps23
  go_wp2_with fail
  refine (backspace_none_any rb l k kept _ H.out hk h0 hl).mono ?_
  rintro e w1 ⟨rfl, h1, o1⟩
  have H1 := Go.Lib.hid h1
  clear h1
  go_wp2_with fail
  go_returns
  exact ⟨rfl, H1.out, ((Own.refl _ _).alloc _).trans o1⟩

theorem key_yank_none (l : List Int) (k : Nat) (hk : k ≤ l.length) (hl : l.length ≤ 100000) (s : ByteArray) (n : Int) (f b : Bool) : KeyOk ⟨17, s, n, f, b⟩ l k [] (-1) l k [] := fun rb w h => by
  have H : Hid (RB (w.alloc (.cells #[.int .i64 17, .string s, .int .i64 n, .bool f, .bool b] 30)) rb l k []) := h.below ((Below.refl _ _).alloc (Nat.le_refl _) _)
  have HW : Hid (∀ W, RB W rb l k [] → Calls Tryd.prog 46 #[.pointer (some ⟨rb, 0, none⟩), .int .i64 17] W fun e w' => e = .returned (.tuple #[.int .i64 (-1), .bool true]) ∧ RB w' rb l k [] ∧ Own rb W w') := fun W h => by
    have H := Go.Lib.hid h
    clear h
    go_enter Tryd.func46, Tryd.ntmps46
    go_wp2_with fail
    refine (yank_none_any rb l k _ H.out hl).mono ?_
    rintro e w1 ⟨rfl, h1, o1⟩
    have H1 := Go.Lib.hid h1
    clear h1
    go_wp2_with fail
    go_returns
    exact ⟨rfl, H1.out, o1⟩
  clear h
  unfold Ky.val
  go_enter Tryd.func23, Tryd.ntmps23
  go_wp2_with fail
  refine (HW.out _ H.out).mono ?_
  rintro e w1 ⟨rfl, h1, o1⟩
  have H1 := Go.Lib.hid h1
  clear h1
  go_wp2_with fail
  go_returns
  exact ⟨rfl, H1.out, ((Own.refl _ _).alloc _).trans o1⟩
end Go.Proofs.YtoimdbmjpkmkfaaDoor
