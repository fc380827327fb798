/- impl.keyed at Replace, Transpose, MoveToLineStart; at a Replace that fails. -/
import Derived.Test.YtoimdbmjpkmkfaaDoorPutsTr
import Derived.Test.YtoimdbmjpkmkfaaDoorRbKeys
namespace Go.Proofs.YtoimdbmjpkmkfaaDoor
open Go.RowKit
set_option linter.unusedVariables false
set_option linter.unusedSimpArgs false

theorem puts_bounds {α : Type} (P : Program) (x y : Int) (W : World) : ∃ v q, (boundsPanic (α := α) .i64 x y .index).run P W = .halt (.panic (.iface P.rt.boundsError v)) (W.drewN q) := by
  unfold boundsPanic
  split
  · exact ⟨_, 1, by simp [runtimePanic, goPanic, go_sem]; exact ⟨rfl, rfl⟩⟩
  · exact ⟨_, 0, by simp [runtimePanic, goPanic, go_sem]; exact ⟨rfl, rfl⟩⟩

theorem start_cl (rb N : Nat) (l : List Int) (k : Nat) (kept : List Int) (w : World) (h : RB w rb l k kept) (hN : Cap w rb N) (hk : k ≤ l.length) (hl : l.length ≤ 100000) :
    Calls Tryd.prog 53 #[.pointer (some ⟨N, 0, none⟩)] w fun e w' => e = .returned (.tuple #[]) ∧ (RB w' rb l 0 kept ∧ Own rb w w') := by
  obtain ⟨A, cap, B, cap2, hv⟩ := h
  have HV := Go.Lib.hid hv
  have HN := Go.Lib.hid hN
  obtain ⟨c0, c1, -, -, -, -, f, sz, -⟩ := hv
  obtain ⟨cN, ltN, neN, -⟩ := hN
  have f1 := f 1
  clear f
  cases k with
  | zero =>
    have c1' : w.cell? ⟨rb, 1, none⟩ = some (.int .i64 0) := c1
    clear c1
    go_enter Tryd.func53, Tryd.ntmps53
    go_wp2_with fail
    go_returns
    exact ⟨rfl, ⟨_, _, _, _, HV.out⟩, Own.refl _ _⟩
  | succ k =>
    have e' : (((k + 1 : Nat) : Int) == 0) = false := by rw [beq_eq_false_iff_ne]; omega
    obtain ⟨m, hm⟩ : ∃ m, m = k + 1 := ⟨_, rfl⟩
    rw [← hm] at c1 e' HV
    clear hm
    go_enter Tryd.func53, Tryd.ntmps53
    go_wp2_with fail
    go_returns
    exact ⟨rfl, ⟨_, _, _, _, HV.out.idx 0⟩, (Own.refl _ _).set _ _⟩

set_option maxHeartbeats 2000000 in
theorem transpose_one_cl (rb N : Nat) (l : List Int) (kept : List Int) (w : World) (h : RB w rb l 0 kept) (hN : Cap w rb N) (h1 : l.length = 1) :
    Calls Tryd.prog 82 #[.pointer (some ⟨N, 0, none⟩)] w fun e w' => e = .returned (.tuple #[]) ∧ (RB w' rb l 1 kept ∧ Own rb w w') := by
  obtain ⟨A, cap, B, cap2, hv⟩ := h
  have HV := Go.Lib.hid hv
  have HN := Go.Lib.hid hN
  obtain ⟨c0, c1, -, -, -, -, f, sz, -⟩ := hv
  obtain ⟨cN, ltN, neN, -⟩ := hN
  have f1 := f 1
  rw [h1] at c0
  have c0' : w.cell? ⟨rb, 0, none⟩ = some (.slice A 1 cap) := c0
  have c1' : w.cell? ⟨rb, 1, none⟩ = some (.int .i64 0) := c1
  clear f c0 c1 h1
  go_enter Tryd.func82, Tryd.ntmps82
  go_wp2_with fail
  go_returns
  exact ⟨rfl, ⟨_, _, _, _, HV.out.idx 1⟩, (Own.refl _ _).set _ _⟩

theorem replace_bad_cl (rb N M : Nat) (c : Int) (l : List Int) (k : Nat) (kept : List Int) (w : World) (h : RB w rb l k kept) (hN : Cap w rb N) (hM : w.cell? ⟨M, 0, none⟩ = some (.int .i32 c)) (hk : k = l.length) (hl : l.length ≤ 100000) :
    Calls Tryd.prog 58 #[.pointer (some ⟨M, 0, none⟩), .pointer (some ⟨N, 0, none⟩)] w fun e w' => (∃ u pv, e = .panicked [{ v := .iface u pv, recovered := false }]) ∧ Own rb w w' := by
  obtain ⟨A, cap, B, cap2, hv⟩ := h
  have hnone : A = none → k = 0 ∧ l.length = 0 ∧ cap = 0 := fun e => by
    rcases hv.r0.own with ⟨_, h2, h3⟩ | ⟨g, h1, _⟩
    · rw [h3] at hk ⊢; exact ⟨hk, rfl, h2⟩
    · rw [e] at h1; cases h1
  obtain ⟨c0, c1, -, -, -, -, -, sz, -⟩ := hv
  obtain ⟨cN, ltN, neN, -⟩ := hN
  have hkz : ¬ (k : Int) < l.length := by omega
  generalize l.length = n at c0 hkz hnone
  clear hk hl
  go_enter Tryd.func58, Tryd.ntmps58
  go_wp2_with fail
  refine region_quiet_tail 9 (by kernel_rfl) (by kernel_rfl) ?_
  simp only [List.take_succ_cons, List.take_zero, List.drop_succ_cons, List.drop_zero]
  repeat (go_big_quiet_step (fail))
  refine wpQuiet_nil ?_
  intro _ hw'
  obtain ⟨nq, hw''⟩ := hw'
  subst hw''
  obtain ⟨pv, q, hr⟩ := puts_bounds (α := Value) Tryd.prog (k : Int) n (w.drewN nq)
  cases A with
  | none =>
    obtain ⟨rfl, rfl, rfl⟩ := hnone rfl
    go_wp2
    exact ⟨rfl, ⟨_, _, rfl⟩, ((Own.refl rb w).drewN nq).drew⟩
  | some a =>
    clear hnone
    go_wp2
    exact ⟨rfl, ⟨_, pv, rfl⟩, (Own.refl rb w).drewN (nq + q)⟩

theorem refresh_bad (rb f : Nat) (caps : Array Value) (w : World) (R : World → Prop) (eg : ∀ args w, (callFunc f args).run Tryd.prog w = .ok (.enter f args) w)
    (h : Calls Tryd.prog f caps w fun e w' => (∃ u pv, e = .panicked [{ v := .iface u pv, recovered := false }]) ∧ R w') :
    Calls Tryd.prog 50 #[.pointer (some ⟨rb, 0, none⟩), .func (.func f) #[] caps] w fun e w' => (∃ u pv, e = .panicked [{ v := .iface u pv, recovered := false }]) ∧ R w' := by
  have H := Go.Lib.hid h
  clear h
  have hne : ∀ w, (binOp .neq 1 (.func (.func f) #[] caps) .nilFunc).run Tryd.prog w = .ok (.bool true) w := fun w => by kernel_rfl
  go_enter Tryd.func50, Tryd.ntmps50
  go_wp2_with fail
  refine H.out.mono ?_
  rintro e w1 ⟨⟨u, pv, rfl⟩, hR⟩
  have HR := Go.Lib.hid hR
  clear hR
  go_wp2_with fail
  exact ⟨rfl, ⟨u, pv, rfl⟩, HR.out⟩

theorem start_any (rb : Nat) (l : List Int) (k : Nat) (kept : List Int) (w : World) (h : RB w rb l k kept) (hk : k ≤ l.length) (hl : l.length ≤ 100000) :
    Calls Tryd.prog 36 #[.pointer (some ⟨rb, 0, none⟩)] w fun e w' => e = .returned (.tuple #[]) ∧ (RB w' rb l 0 kept ∧ Own rb w w') := by
  have eg : ∀ args w, (callFunc 53 args).run Tryd.prog w = .ok (.enter 53 args) w := fun _ _ => by kernel_rfl
  have hmf : ∀ (fn : Fn) (first cap : Array Value) (w : World), (Instr.makeFunc fn first cap).run Tryd.prog w = .ok (.func fn first cap) w := fun _ _ _ _ => rfl
  have hsz : rb < w.heap.size := by obtain ⟨_, _, _, _, h⟩ := h; exact h.sz
  have HR := Go.Lib.hid (refresh rb 53 #[.pointer (some ⟨w.heap.size, 0, none⟩)] (w.alloc (.cells #[.pointer (some ⟨rb, 0, none⟩)] 46)) _ eg
    (start_cl rb w.heap.size l k kept _ (h.below ((Below.refl _ _).alloc (Nat.le_refl _) _)) (cap_new w rb _ (by decide) hsz) hk hl))
  clear h eg
  go_enter Tryd.func36, Tryd.ntmps36
  go_wp2_with fail
  refine HR.out.mono ?_
  rintro e w1 ⟨rfl, h1, o1⟩
  have H1 := Go.Lib.hid h1
  clear h1
  go_wp2_with fail
  go_returns
  exact ⟨rfl, H1.out, ((Own.refl _ _).alloc _).trans o1⟩

theorem transpose_any (rb : Nat) (l : List Int) (k : Nat) (kept : List Int) (w : World) (h : RB w rb l k kept) (hk : k ≤ l.length) (h2 : 2 ≤ l.length) (i : Nat) (hi : i = min (max k 1) (l.length - 1)) (hl : l.length ≤ 100000) :
    Calls Tryd.prog 71 #[.pointer (some ⟨rb, 0, none⟩)] w fun e w' => e = .returned (.tuple #[]) ∧ (RB w' rb (swp l i) (i + 1) kept ∧ Own rb w w') := by
  have eg : ∀ args w, (callFunc 82 args).run Tryd.prog w = .ok (.enter 82 args) w := fun _ _ => by kernel_rfl
  have hmf : ∀ (fn : Fn) (first cap : Array Value) (w : World), (Instr.makeFunc fn first cap).run Tryd.prog w = .ok (.func fn first cap) w := fun _ _ _ _ => rfl
  have hsz : rb < w.heap.size := by obtain ⟨_, _, _, _, h⟩ := h; exact h.sz
  have HR := Go.Lib.hid (refresh rb 82 #[.pointer (some ⟨w.heap.size, 0, none⟩)] (w.alloc (.cells #[.pointer (some ⟨rb, 0, none⟩)] 46)) _ eg
    (transpose_cl rb w.heap.size l k i kept _ (h.below ((Below.refl _ _).alloc (Nat.le_refl _) _)) (cap_new w rb _ (by decide) hsz) hk h2 hl hi))
  clear h eg
  go_enter Tryd.func71, Tryd.ntmps71
  go_wp2_with fail
  refine HR.out.mono ?_
  rintro e w1 ⟨rfl, h1, o1⟩
  have H1 := Go.Lib.hid h1
  clear h1
  go_wp2_with fail
  go_returns
  exact ⟨rfl, H1.out, ((Own.refl _ _).alloc _).trans o1⟩

theorem transpose_one_any (rb : Nat) (l : List Int) (k : Nat) (kept : List Int) (w : World) (h : RB w rb l k kept) (hk : k ≤ l.length) (h0 : k = 0) (h1 : l.length = 1) (hl : l.length ≤ 100000) :
    Calls Tryd.prog 71 #[.pointer (some ⟨rb, 0, none⟩)] w fun e w' => e = .returned (.tuple #[]) ∧ (RB w' rb l 1 kept ∧ Own rb w w') := by
  have eg : ∀ args w, (callFunc 82 args).run Tryd.prog w = .ok (.enter 82 args) w := fun _ _ => by kernel_rfl
  have hmf : ∀ (fn : Fn) (first cap : Array Value) (w : World), (Instr.makeFunc fn first cap).run Tryd.prog w = .ok (.func fn first cap) w := fun _ _ _ _ => rfl
  have hsz : rb < w.heap.size := by obtain ⟨_, _, _, _, h⟩ := h; exact h.sz
  have HR := Go.Lib.hid (refresh rb 82 #[.pointer (some ⟨w.heap.size, 0, none⟩)] (w.alloc (.cells #[.pointer (some ⟨rb, 0, none⟩)] 46)) _ eg
    (transpose_one_cl rb w.heap.size l kept _ ((h0 ▸ h).below ((Below.refl _ _).alloc (Nat.le_refl _) _)) (cap_new w rb _ (by decide) hsz) h1))
  clear h eg
  go_enter Tryd.func71, Tryd.ntmps71
  go_wp2_with fail
  refine HR.out.mono ?_
  rintro e w1 ⟨rfl, h1, o1⟩
  have H1 := Go.Lib.hid h1
  clear h1
  go_wp2_with fail
  go_returns
  exact ⟨rfl, H1.out, ((Own.refl _ _).alloc _).trans o1⟩

theorem replace_any (rb : Nat) (c : Int) (l : List Int) (k : Nat) (kept : List Int) (w : World) (h : RB w rb l k kept) (hk : k < l.length) (hl : l.length ≤ 100000) :
    Calls Tryd.prog 41 #[.pointer (some ⟨rb, 0, none⟩), .int .i32 c] w fun e w' => e = .returned (.tuple #[]) ∧ (RB w' rb (l.set k c) k kept ∧ Own rb w w') := by
  have eg : ∀ args w, (callFunc 58 args).run Tryd.prog w = .ok (.enter 58 args) w := fun _ _ => by kernel_rfl
  have hmf : ∀ (fn : Fn) (first cap : Array Value) (w : World), (Instr.makeFunc fn first cap).run Tryd.prog w = .ok (.func fn first cap) w := fun _ _ _ _ => rfl
  have hsz : rb < w.heap.size := by obtain ⟨_, _, _, _, h⟩ := h; exact h.sz
  have b1 : Below w.heap.size w (w.alloc (.cells #[.pointer (some ⟨rb, 0, none⟩)] 46)) := (Below.refl _ _).alloc (Nat.le_refl _) _
  have n1 := (cap_new w rb 46 (by decide) hsz).own ((Own.refl rb (w.alloc (.cells #[.pointer (some ⟨rb, 0, none⟩)] 46))).alloc (.cells #[.int .i32 c] 21))
  have HR := Go.Lib.hid (refresh rb 58 #[.pointer (some ⟨w.heap.size + 1, 0, none⟩), .pointer (some ⟨w.heap.size, 0, none⟩)] ((w.alloc (.cells #[.pointer (some ⟨rb, 0, none⟩)] 46)).alloc (.cells #[.int .i32 c] 21)) _ eg
    (replace_cl rb w.heap.size (w.heap.size + 1) c l k kept _ (h.below (b1.alloc (by simp) _)) n1 (by simp [go_sem]) hk hl))
  clear h eg n1 b1
  go_enter Tryd.func41, Tryd.ntmps41
  go_wp2_with fail
  refine HR.out.mono ?_
  rintro e w1 ⟨rfl, h1, o1⟩
  have H1 := Go.Lib.hid h1
  clear h1
  go_wp2_with fail
  go_returns
  exact ⟨rfl, H1.out, (((Own.refl rb w).alloc _).alloc _).trans o1⟩

theorem replace_bad (rb : Nat) (c : Int) (l : List Int) (k : Nat) (kept : List Int) (w : World) (h : RB w rb l k kept) (hk : k = l.length) (hl : l.length ≤ 100000) :
    Calls Tryd.prog 41 #[.pointer (some ⟨rb, 0, none⟩), .int .i32 c] w fun e w' => (∃ u pv, e = .panicked [{ v := .iface u pv, recovered := false }]) ∧ Own rb w w' := by
  have eg : ∀ args w, (callFunc 58 args).run Tryd.prog w = .ok (.enter 58 args) w := fun _ _ => by kernel_rfl
  have hmf : ∀ (fn : Fn) (first cap : Array Value) (w : World), (Instr.makeFunc fn first cap).run Tryd.prog w = .ok (.func fn first cap) w := fun _ _ _ _ => rfl
  have hsz : rb < w.heap.size := by obtain ⟨_, _, _, _, h⟩ := h; exact h.sz
  have b1 : Below w.heap.size w (w.alloc (.cells #[.pointer (some ⟨rb, 0, none⟩)] 46)) := (Below.refl _ _).alloc (Nat.le_refl _) _
  have n1 := (cap_new w rb 46 (by decide) hsz).own ((Own.refl rb (w.alloc (.cells #[.pointer (some ⟨rb, 0, none⟩)] 46))).alloc (.cells #[.int .i32 c] 21))
  have HR := Go.Lib.hid (refresh_bad rb 58 #[.pointer (some ⟨w.heap.size + 1, 0, none⟩), .pointer (some ⟨w.heap.size, 0, none⟩)] ((w.alloc (.cells #[.pointer (some ⟨rb, 0, none⟩)] 46)).alloc (.cells #[.int .i32 c] 21)) _ eg
    (replace_bad_cl rb w.heap.size (w.heap.size + 1) c l k kept _ (h.below (b1.alloc (by simp) _)) n1 (by simp [go_sem]) hk hl))
  clear h eg n1 b1
  go_enter Tryd.func41, Tryd.ntmps41
  go_wp2_with fail
  refine HR.out.mono ?_
  rintro e w1 ⟨⟨u, pv, rfl⟩, h1⟩
  have H1 := Go.Lib.hid h1
  clear h1
  go_wp2_with fail
  exact ⟨rfl, ⟨u, pv, rfl⟩, (((Own.refl rb w).alloc _).alloc _).trans H1.out⟩

theorem key_start (l : List Int) (k : Nat) (kept : List Int) (hk : k ≤ l.length) (hl : l.length ≤ 100000) (s : ByteArray) (n : Int) (f b : Bool) : KeyOk ⟨4, s, n, f, b⟩ l k kept (-1) l 0 kept := fun rb w h => by
  have H : Hid (RB (w.alloc (.cells #[.int .i64 4, .string s, .int .i64 n, .bool f, .bool b] 30)) rb l k kept) := h.below ((Below.refl _ _).alloc (Nat.le_refl _) _)
  clear h
  unfold Ky.val
  go_enter Tryd.func23, Tryd.ntmps23
  go_wp2_with fail
  refine (start_any rb l k kept _ H.out hk hl).mono ?_
  rintro e w1 ⟨rfl, h1, o1⟩
  have H1 := Go.Lib.hid h1
  clear h1
  go_wp2_with fail
  go_returns
  exact ⟨rfl, H1.out, ((Own.refl _ _).alloc _).trans o1⟩

theorem key_replace (l : List Int) (k : Nat) (kept : List Int) (hk : k ≤ l.length) (hl : l.length ≤ 100000) (hk2 : k < l.length) (c : Int) (hc0 : 0 ≤ c) (hc1 : c ≤ 1114111) (s : ByteArray) (f b : Bool) : KeyOk ⟨8, s, c, f, b⟩ l k kept (-1) (l.set k c) k kept := fun rb w h => by
  have H : Hid (RB (w.alloc (.cells #[.int .i64 8, .string s, .int .i64 c, .bool f, .bool b] 30)) rb l k kept) := h.below ((Below.refl _ _).alloc (Nat.le_refl _) _)
  clear h
  have hc32 : IntKind.i32.wrap c = c := IntWalk.i32_in _ (by omega)
  unfold Ky.val
  go_enter Tryd.func23, Tryd.ntmps23
  go_wp2_with fail
  refine (replace_any rb c l k kept _ H.out hk2 hl).mono ?_
  rintro e w1 ⟨rfl, h1, o1⟩
  have H1 := Go.Lib.hid h1
  clear h1
  go_wp2_with fail
  go_returns
  exact ⟨rfl, H1.out, ((Own.refl _ _).alloc _).trans o1⟩

theorem key_transpose (l : List Int) (k : Nat) (kept : List Int) (hk : k ≤ l.length) (hl : l.length ≤ 100000) (h2 : 2 ≤ l.length) (i : Nat) (hi : i = min (max k 1) (l.length - 1)) (s : ByteArray) (n : Int) (f b : Bool) : KeyOk ⟨18, s, n, f, b⟩ l k kept (-1) (swp l i) (i + 1) kept := fun rb w h => by
  have H : Hid (RB (w.alloc (.cells #[.int .i64 18, .string s, .int .i64 n, .bool f, .bool b] 30)) rb l k kept) := h.below ((Below.refl _ _).alloc (Nat.le_refl _) _)
  have HW : Hid (∀ W, RB W rb l k kept → Calls Tryd.prog 46 #[.pointer (some ⟨rb, 0, none⟩), .int .i64 18] W fun e w' => e = .returned (.tuple #[.int .i64 (-1), .bool true]) ∧ RB w' rb (swp l i) (i + 1) kept ∧ Own rb W w') := fun W h => by
    have H := Go.Lib.hid h
    clear h
    go_enter Tryd.func46, Tryd.ntmps46
    go_wp2_with fail
    refine (transpose_any rb l k kept _ H.out hk h2 i hi hl).mono ?_
    rintro e w1 ⟨rfl, h1, o1⟩
    have H1 := Go.Lib.hid h1
    clear h1
    go_wp2_with fail
    go_returns
    exact ⟨rfl, H1.out, o1⟩
  clear h
  unfold Ky.val
  go_enter Tryd.func23, Tryd.ntmps23
  go_wp2_with fail
  refine (HW.out _ H.out).mono ?_
  rintro e w1 ⟨rfl, h1, o1⟩
  have H1 := Go.Lib.hid h1
  clear h1
  go_wp2_with fail
  go_returns
  exact ⟨rfl, H1.out, ((Own.refl _ _).alloc _).trans o1⟩

theorem key_transpose_one (l : List Int) (k : Nat) (kept : List Int) (hk : k ≤ l.length) (hl : l.length ≤ 100000) (h0 : k = 0) (h1 : l.length = 1) (s : ByteArray) (n : Int) (f b : Bool) : KeyOk ⟨18, s, n, f, b⟩ l k kept (-1) l 1 kept := fun rb w h => by
  have H : Hid (RB (w.alloc (.cells #[.int .i64 18, .string s, .int .i64 n, .bool f, .bool b] 30)) rb l k kept) := h.below ((Below.refl _ _).alloc (Nat.le_refl _) _)
  have HW : Hid (∀ W, RB W rb l k kept → Calls Tryd.prog 46 #[.pointer (some ⟨rb, 0, none⟩), .int .i64 18] W fun e w' => e = .returned (.tuple #[.int .i64 (-1), .bool true]) ∧ RB w' rb l 1 kept ∧ Own rb W w') := fun W h => by
    have H := Go.Lib.hid h
    clear h
    go_enter Tryd.func46, Tryd.ntmps46
    go_wp2_with fail
    refine (transpose_one_any rb l k kept _ H.out hk h0 h1 hl).mono ?_
    rintro e w1 ⟨rfl, h1, o1⟩
    have H1 := Go.Lib.hid h1
    clear h1
    go_wp2_with fail
    go_returns
    exact ⟨rfl, H1.out, o1⟩
  clear h
  unfold Ky.val
  go_enter Tryd.func23, Tryd.ntmps23
  go_wp2_with fail
  refine (HW.out _ H.out).mono ?_
  rintro e w1 ⟨rfl, h1, o1⟩
  have H1 := Go.Lib.hid h1
  clear h1
  go_wp2_with fail
  go_returns
  exact ⟨rfl, H1.out, ((Own.refl _ _).alloc _).trans o1⟩

/-- A step that fails. -/
def KeyBad (e : Ky) (l : List Int) (k : Nat) (kept : List Int) : Prop :=
  ∀ (rb : Nat) (w : World), RB w rb l k kept → Calls Tryd.prog 23 #[.pointer (some ⟨rb, 0, none⟩), e.val] w fun e w' => (∃ u pv, e = .panicked [{ v := .iface u pv, recovered := false }]) ∧ Own rb w w'
theorem key_replace_bad (l : List Int) (k : Nat) (kept : List Int) (hk : k = l.length) (hl : l.length ≤ 100000) (s : ByteArray) (c : Int) (hc0 : 0 ≤ c) (hc1 : c ≤ 1114111) (f b : Bool) : KeyBad ⟨8, s, c, f, b⟩ l k kept := fun rb w h => by
  have H : Hid (RB (w.alloc (.cells #[.int .i64 8, .string s, .int .i64 c, .bool f, .bool b] 30)) rb l k kept) := h.below ((Below.refl _ _).alloc (Nat.le_refl _) _)
  have hc32 : IntKind.i32.wrap c = c := IntWalk.i32_in _ (by omega)
  clear h
  unfold Ky.val
  go_enter Tryd.func23, Tryd.ntmps23
  go_wp2_with fail
  refine (replace_bad rb c l k kept _ H.out hk hl).mono ?_
  rintro e w1 ⟨⟨u, pv, rfl⟩, o1⟩
  go_wp2_with fail
  exact ⟨rfl, ⟨u, pv, rfl⟩, ((Own.refl _ _).alloc _).trans o1⟩
end Go.Proofs.YtoimdbmjpkmkfaaDoor
