/- spec.Editor.Do at the other kinds of step (printed by wip/gen/mkedmore.py). -/
import Derived.Test.YtoimdbmjpkmkfaaDoorEdSteps
namespace Go.Proofs.YtoimdbmjpkmkfaaDoor
open Go.RowKit
set_option linter.unusedVariables false
set_option linter.unusedSimpArgs false

/-- How many code points a text has. -/
def rl (s : ByteArray) : Int := ((runes s).length : Nat)

set_option maxRecDepth 100000 in
set_option maxHeartbeats 2000000 in
theorem do_backward (l : List Int) (k : Nat) (kept : List Int) (s : ByteArray) (n : Int) (f b : Bool) (hk : k ≤ l.length) (hl : l.length ≤ 100000) : DoOk ⟨3, s, n, f, b⟩ l k kept (-1) l (k - 1) kept false false := fun eb w h => by
  have H1 : Hid (Ed (w.alloc (.cells #[.int .i64 3, .string s, .int .i64 n, .bool f, .bool b] 30)) eb l k kept false false) := h.same ((Below.refl _ _).alloc (Nat.le_refl _) _)
  have K1 : Hid (EdK eb w (w.alloc (.cells #[.int .i64 3, .string s, .int .i64 n, .bool f, .bool b] 30))) := (EdK.refl _ _).alloc _
  obtain ⟨A, cap, B, cap2, hv⟩ := H1.out
  have HV := Go.Lib.hid hv
  have c0 := hv.c0
  have c1 := hv.c1
  have c3 := hv.c3
  have c4 := hv.c4
  have f1 := hv.f 1
  have z1 := hv.sz
  clear h hv
  unfold Ky.val
  cases k with
  | zero =>
    have c1' : (w.alloc (.cells #[.int .i64 3, .string s, .int .i64 n, .bool f, .bool b] 30)).cell? ⟨eb, 1, none⟩ = some (.int .i64 0) := c1
    clear c1
    go_enter Tryd.func7, Tryd.ntmps7
    go_wp2_with fail
    go_returns
    exact ⟨rfl, ⟨_, _, _, _, HV.out.at 0⟩, K1.out.set _ _⟩
  | succ k =>
    have hw : IntKind.i64.wrap (((k + 1 : Nat) : Int) - 1) = (k : Nat) := by rw [IntWalk.i64_in _ (by omega)]; omega
    have e0 : ¬ (k : Int) < 0 := by omega
    have e1 : (0 : Int) ≤ (k : Int) := by omega
    obtain ⟨m, hm⟩ : ∃ m, m = k + 1 := ⟨_, rfl⟩
    rw [← hm] at c1 hw
    have HM : Hid (k + 1 - 1 = k) := rfl
    clear hm
    rw [HM.out]
    go_enter Tryd.func7, Tryd.ntmps7
    go_wp2_with fail
    all_goals first
      | (exfalso; omega)
      | (go_returns; exact ⟨rfl, ⟨_, _, _, _, HV.out.at k⟩, K1.out.set _ _⟩)

set_option maxRecDepth 100000 in
set_option maxHeartbeats 2000000 in
theorem do_backspace (l : List Int) (k : Nat) (kept : List Int) (s : ByteArray) (n : Int) (f b : Bool) (hk : k ≤ l.length) (hl : l.length ≤ 100000) (h0 : 0 < k) : DoOk ⟨7, s, n, f, b⟩ l k kept (-1) (without l (k - 1) k) (k - 1) kept false false := fun eb w h => by
  have H1 : Hid (Ed (w.alloc (.cells #[.int .i64 7, .string s, .int .i64 n, .bool f, .bool b] 30)) eb l k kept false false) := h.same ((Below.refl _ _).alloc (Nat.le_refl _) _)
  have K1 : Hid (EdK eb w (w.alloc (.cells #[.int .i64 7, .string s, .int .i64 n, .bool f, .bool b] 30))) := (EdK.refl _ _).alloc _
  obtain ⟨A, cap, B, cap2, hv⟩ := H1.out
  have HV := Go.Lib.hid hv
  have c0 := hv.c0
  have c1 := hv.c1
  have c3 := hv.c3
  have c4 := hv.c4
  have f1 := hv.f 1
  have z1 := hv.sz
  clear h hv
  unfold Ky.val
  have e0 : (0 : Int) < (k : Int) := by omega
  obtain ⟨m, hm⟩ : ∃ m, m = k - 1 := ⟨_, rfl⟩
  have hw : IntKind.i64.wrap ((k : Int) - 1) = (m : Nat) := by rw [IntWalk.i64_in _ (by omega)]; omega
  have HC := Go.Lib.hid fun w (h : Ed w eb l k kept false false) => ed_cut eb l k kept m k w h (by omega) hk hl false kept (by simp)
  rw [← hm]
  clear hm
  go_enter Tryd.func7, Tryd.ntmps7
  go_wp2_with fail
  refine region_quiet_tail 10 (by kernel_rfl) (by kernel_rfl) ?_
  simp only [List.take_succ_cons, List.take_zero, List.drop_succ_cons, List.drop_zero]
  repeat (go_big_quiet_step (fail))
  refine wpQuiet_nil ?_
  intro _ hw'
  obtain ⟨nq, hw''⟩ := hw'
  subst hw''
  go_wp2_with fail
  refine (HC.out _ (H1.out.same (below_drewN (Below.refl _ _) _))).mono ?_
  rintro e w1 ⟨rfl, h1, o1⟩
  have HE := Go.Lib.hid h1
  have O1 : Hid (EdK eb w w1) := (K1.out.drewN _).trans o1
  clear h1 o1
  go_wp2_with fail
  go_returns
  exact ⟨rfl, HE.out, O1.out⟩

set_option maxRecDepth 100000 in
set_option maxHeartbeats 2000000 in
theorem do_backspace_none (l : List Int) (k : Nat) (kept : List Int) (s : ByteArray) (n : Int) (f b : Bool) (hk : k ≤ l.length) (hl : l.length ≤ 100000) (h0 : k = 0) : DoOk ⟨7, s, n, f, b⟩ l k kept (-1) l k kept false false := fun eb w h => by
  have H1 : Hid (Ed (w.alloc (.cells #[.int .i64 7, .string s, .int .i64 n, .bool f, .bool b] 30)) eb l k kept false false) := h.same ((Below.refl _ _).alloc (Nat.le_refl _) _)
  have K1 : Hid (EdK eb w (w.alloc (.cells #[.int .i64 7, .string s, .int .i64 n, .bool f, .bool b] 30))) := (EdK.refl _ _).alloc _
  obtain ⟨A, cap, B, cap2, hv⟩ := H1.out
  have HV := Go.Lib.hid hv
  have c0 := hv.c0
  have c1 := hv.c1
  have c3 := hv.c3
  have c4 := hv.c4
  have f1 := hv.f 1
  have z1 := hv.sz
  clear h hv
  unfold Ky.val
  subst h0
  have c1' : (w.alloc (.cells #[.int .i64 7, .string s, .int .i64 n, .bool f, .bool b] 30)).cell? ⟨eb, 1, none⟩ = some (.int .i64 0) := c1
  clear c1
  go_enter Tryd.func7, Tryd.ntmps7
  go_wp2_with fail
  go_returns
  exact ⟨rfl, ⟨_, _, _, _, HV.out⟩, K1.out⟩

set_option maxRecDepth 100000 in
set_option maxHeartbeats 2000000 in
theorem do_erase (l : List Int) (k : Nat) (kept : List Int) (s : ByteArray) (n : Int) (f b : Bool) (hk : k ≤ l.length) (hl : l.length ≤ 100000) : DoOk ⟨9, s, n, f, b⟩ l k kept (-1) (without l 0 l.length) 0 ((l.take l.length).drop 0) false false := fun eb w h => by
  have H1 : Hid (Ed (w.alloc (.cells #[.int .i64 9, .string s, .int .i64 n, .bool f, .bool b] 30)) eb l k kept false false) := h.same ((Below.refl _ _).alloc (Nat.le_refl _) _)
  have K1 : Hid (EdK eb w (w.alloc (.cells #[.int .i64 9, .string s, .int .i64 n, .bool f, .bool b] 30))) := (EdK.refl _ _).alloc _
  obtain ⟨A, cap, B, cap2, hv⟩ := H1.out
  have HV := Go.Lib.hid hv
  have c0 := hv.c0
  have c1 := hv.c1
  have c3 := hv.c3
  have c4 := hv.c4
  have f1 := hv.f 1
  have z1 := hv.sz
  clear h hv
  unfold Ky.val
  have HC := Go.Lib.hid fun w (h : Ed w eb l k kept false false) => ed_cut eb l k kept 0 l.length w h (Nat.zero_le _) (Nat.le_refl _) hl true _ rfl
  go_enter Tryd.func7, Tryd.ntmps7
  go_wp2_with fail
  refine (HC.out _ H1.out).mono ?_
  rintro e w1 ⟨rfl, h1, o1⟩
  have HE := Go.Lib.hid h1
  have O1 : Hid (EdK eb w w1) := K1.out.trans o1
  clear h1 o1
  go_wp2_with fail
  go_returns
  exact ⟨rfl, HE.out, O1.out⟩

theorem EdV.at2 {w : World} {eb : Nat} {l : List Int} {k : Nat} {kept : List Int} {bad op : Bool} {A : Option Addr} {cap : Nat} {B : Option Addr} {cap2 : Nat} (h : EdV w eb l k kept bad op A cap B cap2) (u : Value) (i : Nat) : EdV ((w.setCell ⟨eb, 1, none⟩ u).setCell ⟨eb, 1, none⟩ (.int .i64 (i : Nat))) eb l i kept bad op A cap B cap2 :=
  ⟨(set_other (by decide)).trans ((set_other (by decide)).trans h.c0), set_same (set_same h.c1), (set_other (by decide)).trans ((set_other (by decide)).trans h.c2), (set_other (by decide)).trans ((set_other (by decide)).trans h.c3), (set_other (by decide)).trans ((set_other (by decide)).trans h.c4), (h.r0.set _ _).set _ _, (h.r2.set _ _).set _ _, h.lc, h.lc2, h.n0, h.n2, fun j => set_frozen.trans (set_frozen.trans (h.f j)), by simpa [World.setCell] using h.sz⟩

set_option maxRecDepth 100000 in
set_option maxHeartbeats 2000000 in
theorem do_nextword (l : List Int) (k : Nat) (kept : List Int) (s : ByteArray) (n : Int) (f b : Bool) (hk : k ≤ l.length) (hl : l.length ≤ 100000) : DoOk ⟨11, s, n, f, b⟩ l k kept (-1) l (if aftW l (k + 1) = -1 then l.length else (aftW l (k + 1)).toNat) kept false false := fun eb w h => by
  have H1 : Hid (Ed (w.alloc (.cells #[.int .i64 11, .string s, .int .i64 n, .bool f, .bool b] 30)) eb l k kept false false) := h.same ((Below.refl _ _).alloc (Nat.le_refl _) _)
  have K1 : Hid (EdK eb w (w.alloc (.cells #[.int .i64 11, .string s, .int .i64 n, .bool f, .bool b] 30))) := (EdK.refl _ _).alloc _
  obtain ⟨A, cap, B, cap2, hv⟩ := H1.out
  have HV := Go.Lib.hid hv
  have c0 := hv.c0
  have c1 := hv.c1
  have c3 := hv.c3
  have c4 := hv.c4
  have f1 := hv.f 1
  have z1 := hv.sz
  clear h hv
  unfold Ky.val
  have HA := Go.Lib.hid (after_any eb l k kept k _ H1.out hl hk)
  have hbd := aftW_bd l (k + 1)
  generalize aftW l (k + 1) = a at HA hbd ⊢
  by_cases ha : a = -1
  · subst ha
    rw [if_pos rfl]
    clear hbd
    go_enter Tryd.func7, Tryd.ntmps7
    go_wp2_with fail
    refine HA.out.mono ?_
    rintro e w1 ⟨rfl, rfl⟩
    go_wp2_with fail
    go_returns
    exact ⟨rfl, ⟨_, _, _, _, HV.out.at2 _ l.length⟩, (K1.out.set _ _).set _ _⟩
  · rw [if_neg ha]
    have hab := hbd.2 ha
    obtain ⟨i, rfl⟩ := Int.eq_ofNat_of_zero_le (show 0 ≤ a by omega)
    rw [Int.toNat_natCast]
    have hi0 : ¬ (i : Int) < 0 := by omega
    clear hbd ha hab
    go_enter Tryd.func7, Tryd.ntmps7
    go_wp2_with fail
    refine HA.out.mono ?_
    rintro e w1 ⟨rfl, rfl⟩
    go_wp2_with fail
    go_returns
    exact ⟨rfl, ⟨_, _, _, _, HV.out.at i⟩, K1.out.set _ _⟩

set_option maxRecDepth 100000 in
set_option maxHeartbeats 2000000 in
theorem do_prevword (l : List Int) (k : Nat) (kept : List Int) (s : ByteArray) (n : Int) (f b : Bool) (hk : k ≤ l.length) (hl : l.length ≤ 100000) : DoOk ⟨10, s, n, f, b⟩ l k kept (toldI (decide (0 < k))) l (befW l k).toNat kept false false := fun eb w h => by
  have H1 : Hid (Ed (w.alloc (.cells #[.int .i64 10, .string s, .int .i64 n, .bool f, .bool b] 30)) eb l k kept false false) := h.same ((Below.refl _ _).alloc (Nat.le_refl _) _)
  have K1 : Hid (EdK eb w (w.alloc (.cells #[.int .i64 10, .string s, .int .i64 n, .bool f, .bool b] 30))) := (EdK.refl _ _).alloc _
  obtain ⟨A, cap, B, cap2, hv⟩ := H1.out
  have HV := Go.Lib.hid hv
  have c0 := hv.c0
  have c1 := hv.c1
  have c3 := hv.c3
  have c4 := hv.c4
  have f1 := hv.f 1
  have z1 := hv.sz
  clear h hv
  unfold Ky.val
  have HB := Go.Lib.hid (before_any eb l k kept k _ H1.out hl hk)
  have hge := befW_ge l k
  have hT : Hid ((decide ((0 : Int) < (k : Int))) = decide (0 < k)) := by
    show decide _ = decide _
    by_cases e : 0 < k
    · rw [decide_eq_true e, decide_eq_true (by omega)]
    · rw [decide_eq_false e, decide_eq_false (by omega)]
  generalize befW l k = a at HB hge ⊢
  obtain ⟨m, hm⟩ : ∃ m, m = a.toNat := ⟨_, rfl⟩
  rw [← hm]
  have hx1 : (if a < 0 then (0 : Int) else a) = (m : Nat) := by split <;> omega
  have hx2 : (if (0 : Int) ≤ a then a else 0) = (m : Nat) := by split <;> omega
  have hx3 : (if (0 : Int) < a then a else 0) = (m : Nat) := by split <;> omega
  have hx4 : (if a ≤ 0 then (0 : Int) else a) = (m : Nat) := by split <;> omega
  clear hm hge
  go_enter Tryd.func7, Tryd.ntmps7
  go_wp2_with fail
  refine HB.out.mono ?_
  rintro e w1 ⟨rfl, rfl⟩
  go_wp2_with fail
  refine (told_spec _ _).mono ?_
  rintro e w1 ⟨rfl, rfl⟩
  go_wp2_with fail
  go_returns
  first
    | exact ⟨rfl, ⟨_, _, _, _, HV.out.at m⟩, K1.out.set _ _⟩
    | exact ⟨by rw [← hT.out]; rfl, ⟨_, _, _, _, HV.out.at m⟩, K1.out.set _ _⟩

set_option maxRecDepth 100000 in
set_option maxHeartbeats 2000000 in
theorem more_yank (l : List Int) (k : Nat) (kept : List Int) (s : ByteArray) (n : Int) (f b : Bool) (hk : k ≤ l.length) (hl : l.length ≤ 100000) (hkl : kept.length ≤ 100000) (eb : Nat) (w : World) (h : Ed w eb l k kept false false) : Calls Tryd.prog 20 #[.pointer (some ⟨eb, 0, none⟩), .agg #[.int .i64 17, .string s, .int .i64 n, .bool f, .bool b]] w (DoPost eb (-1) (l.take k ++ kept ++ l.drop k) (k + kept.length) kept false false w) := by
  have H1 : Hid (Ed (w.alloc (.cells #[.int .i64 17, .string s, .int .i64 n, .bool f, .bool b] 30)) eb l k kept false false) := h.same ((Below.refl _ _).alloc (Nat.le_refl _) _)
  have K1 : Hid (EdK eb w (w.alloc (.cells #[.int .i64 17, .string s, .int .i64 n, .bool f, .bool b] 30))) := (EdK.refl _ _).alloc _
  obtain ⟨A, cap, B, cap2, hv⟩ := H1.out
  have HV := Go.Lib.hid hv
  have c0 := hv.c0
  have c1 := hv.c1
  have f4 := hv.f 4
  have c4 := hv.c4
  have c2 := hv.c2
  have f1 := hv.f 1
  have f0 := hv.f 0
  have z1 := hv.sz
  clear h hv
  have HC := Go.Lib.hid (ed_put eb l k kept kept B cap2 _ H1.out hk hl hkl HV.out.r2 HV.out.n2 HV.out.lc2)
  go_enter Tryd.func20, Tryd.ntmps20
  go_wp2_with fail
  refine HC.out.mono ?_
  rintro e w1 ⟨rfl, h1, o1⟩
  have HE := Go.Lib.hid h1
  have O1 : Hid (EdK eb w w1) := K1.out.trans o1
  clear h1 o1
  go_wp2_with fail
  go_returns
  exact ⟨rfl, HE.out, O1.out⟩

set_option maxRecDepth 100000 in
set_option maxHeartbeats 2000000 in
theorem do_yank (l : List Int) (k : Nat) (kept : List Int) (s : ByteArray) (n : Int) (f b : Bool) (hk : k ≤ l.length) (hl : l.length ≤ 100000) (hkl : kept.length ≤ 100000) : DoOk ⟨17, s, n, f, b⟩ l k kept (-1) (l.take k ++ kept ++ l.drop k) (k + kept.length) kept false false := fun eb w h => by
  have H1 : Hid (Ed (w.alloc (.cells #[.int .i64 17, .string s, .int .i64 n, .bool f, .bool b] 30)) eb l k kept false false) := h.same ((Below.refl _ _).alloc (Nat.le_refl _) _)
  have K1 : Hid (EdK eb w (w.alloc (.cells #[.int .i64 17, .string s, .int .i64 n, .bool f, .bool b] 30))) := (EdK.refl _ _).alloc _
  obtain ⟨A, cap, B, cap2, hv⟩ := H1.out
  have HV := Go.Lib.hid hv
  have c0 := hv.c0
  have c1 := hv.c1
  have c3 := hv.c3
  have c4 := hv.c4
  have f1 := hv.f 1
  have z1 := hv.sz
  clear h hv
  unfold Ky.val
  have HM := Go.Lib.hid (more_yank l k kept s n f b hk hl hkl eb _ H1.out)
  generalize (l.take k ++ kept ++ l.drop k) = q1 at HM ⊢
  generalize (k + kept.length) = q2 at HM ⊢
  go_enter Tryd.func7, Tryd.ntmps7
  go_wp2_with fail
  refine HM.out.mono ?_
  rintro e w1 ⟨rfl, h1, o1⟩
  have HE := Go.Lib.hid h1
  have O1 : Hid (EdK eb w w1) := K1.out.trans o1
  clear h1 o1
  go_wp2_with fail
  go_returns
  exact ⟨rfl, HE.out, O1.out⟩

set_option maxRecDepth 100000 in
set_option maxHeartbeats 2000000 in
theorem more_reset (l : List Int) (k : Nat) (kept : List Int) (s : ByteArray) (n : Int) (f b : Bool) (hk : k ≤ l.length) (hl : l.length ≤ 100000) (eb : Nat) (w : World) (h : Ed w eb l k kept false false) : Calls Tryd.prog 20 #[.pointer (some ⟨eb, 0, none⟩), .agg #[.int .i64 21, .string s, .int .i64 n, .bool f, .bool b]] w (DoPost eb (-1) [] 0 kept false false w) := by
  have H1 : Hid (Ed (w.alloc (.cells #[.int .i64 21, .string s, .int .i64 n, .bool f, .bool b] 30)) eb l k kept false false) := h.same ((Below.refl _ _).alloc (Nat.le_refl _) _)
  have K1 : Hid (EdK eb w (w.alloc (.cells #[.int .i64 21, .string s, .int .i64 n, .bool f, .bool b] 30))) := (EdK.refl _ _).alloc _
  obtain ⟨A, cap, B, cap2, hv⟩ := H1.out
  have HV := Go.Lib.hid hv
  have c0 := hv.c0
  have c1 := hv.c1
  have f4 := hv.f 4
  have c4 := hv.c4
  have c2 := hv.c2
  have f1 := hv.f 1
  have f0 := hv.f 0
  have z1 := hv.sz
  clear h hv
  go_enter Tryd.func20, Tryd.ntmps20
  go_wp2_with fail
  go_returns
  have hrn : ∀ W, Rw W eb none [] := fun _ => .inl rfl
  exact ⟨rfl, ⟨_, _, _, _, (HV.out.line (A' := none) (cap' := 0) (l' := []) (hrn _) (Nat.le_refl _) (fun _ => rfl)).at 0⟩, (K1.out.set _ _).set _ _⟩

set_option maxRecDepth 100000 in
set_option maxHeartbeats 2000000 in
theorem do_reset (l : List Int) (k : Nat) (kept : List Int) (s : ByteArray) (n : Int) (f b : Bool) (hk : k ≤ l.length) (hl : l.length ≤ 100000) : DoOk ⟨21, s, n, f, b⟩ l k kept (-1) [] 0 kept false false := fun eb w h => by
  have H1 : Hid (Ed (w.alloc (.cells #[.int .i64 21, .string s, .int .i64 n, .bool f, .bool b] 30)) eb l k kept false false) := h.same ((Below.refl _ _).alloc (Nat.le_refl _) _)
  have K1 : Hid (EdK eb w (w.alloc (.cells #[.int .i64 21, .string s, .int .i64 n, .bool f, .bool b] 30))) := (EdK.refl _ _).alloc _
  obtain ⟨A, cap, B, cap2, hv⟩ := H1.out
  have HV := Go.Lib.hid hv
  have c0 := hv.c0
  have c1 := hv.c1
  have c3 := hv.c3
  have c4 := hv.c4
  have f1 := hv.f 1
  have z1 := hv.sz
  clear h hv
  unfold Ky.val
  have HM := Go.Lib.hid (more_reset l k kept s n f b hk hl eb _ H1.out)
  go_enter Tryd.func7, Tryd.ntmps7
  go_wp2_with fail
  refine HM.out.mono ?_
  rintro e w1 ⟨rfl, h1, o1⟩
  have HE := Go.Lib.hid h1
  have O1 : Hid (EdK eb w w1) := K1.out.trans o1
  clear h1 o1
  go_wp2_with fail
  go_returns
  exact ⟨rfl, HE.out, O1.out⟩

set_option maxRecDepth 100000 in
set_option maxHeartbeats 2000000 in
theorem more_set_open (l : List Int) (k : Nat) (kept : List Int) (s : ByteArray) (n : Int) (f b : Bool) (hk : k ≤ l.length) (hl : l.length ≤ 100000) (hs : s.size ≤ 100000) (hb : n < 0 ∨ rl s < n) (eb : Nat) (w : World) (h : Ed w eb l k kept false false) : Calls Tryd.prog 20 #[.pointer (some ⟨eb, 0, none⟩), .agg #[.int .i64 20, .string s, .int .i64 n, .bool f, .bool b]] w (DoPost eb (-1) l k kept false true w) := by
  have H1 : Hid (Ed (w.alloc (.cells #[.int .i64 20, .string s, .int .i64 n, .bool f, .bool b] 30)) eb l k kept false false) := h.same ((Below.refl _ _).alloc (Nat.le_refl _) _)
  have K1 : Hid (EdK eb w (w.alloc (.cells #[.int .i64 20, .string s, .int .i64 n, .bool f, .bool b] 30))) := (EdK.refl _ _).alloc _
  obtain ⟨A, cap, B, cap2, hv⟩ := H1.out
  have HV := Go.Lib.hid hv
  have c0 := hv.c0
  have c1 := hv.c1
  have f4 := hv.f 4
  have c4 := hv.c4
  have c2 := hv.c2
  have f1 := hv.f 1
  have f0 := hv.f 0
  have z1 := hv.sz
  clear h hv
  obtain ⟨capS, W, hcv, hrow, hbW⟩ := row_runes (w.alloc (.cells #[.int .i64 20, .string s, .int .i64 n, .bool f, .bool b] 30)) (w.alloc (.cells #[.int .i64 20, .string s, .int .i64 n, .bool f, .bool b] 30)).heap.size s hs (Nat.le_refl _)
  have k2 : (w.alloc (.cells #[.int .i64 20, .string s, .int .i64 n, .bool f, .bool b] 30)).cell? ⟨w.heap.size, 2, none⟩ = some (.int .i64 n) := by simp [go_sem]
  have k2W := (hbW.cell (p := ⟨w.heap.size, 2, none⟩) (by simp)).trans k2
  have VW := Go.Lib.hid (HV.out.same hbW)
  have KW : Hid (EdK eb w W) := K1.out.trans (.of hbW)
  rw [show (w.alloc (.cells #[.int .i64 20, .string s, .int .i64 n, .bool f, .bool b] 30)).heap.size = w.heap.size + 1 by simp] at hcv
  unfold rl at hb
  generalize (runes s).length = ln at hcv hb
  have a4 := VW.out.f 4
  have b4 := VW.out.c4
  have zW := VW.out.sz
  clear hrow hbW c1 c2 c4 f4 f1 f0 hs
  have hz0 : 0 ≤ (ln : Int) := by omega
  by_cases hn : n < 0
  · clear hb
    go_enter Tryd.func20, Tryd.ntmps20
    go_wp2_with fail
    go_returns
    exact ⟨rfl, ⟨_, _, _, _, VW.out.setOpen true⟩, KW.out.set _ _⟩
  have hb2 : (ln : Int) < n := by omega
  clear hb
  go_enter Tryd.func20, Tryd.ntmps20
  go_wp2_with fail
  go_returns
  exact ⟨rfl, ⟨_, _, _, _, VW.out.setOpen true⟩, KW.out.set _ _⟩

set_option maxRecDepth 100000 in
set_option maxHeartbeats 2000000 in
theorem do_set_open (l : List Int) (k : Nat) (kept : List Int) (s : ByteArray) (n : Int) (f b : Bool) (hk : k ≤ l.length) (hl : l.length ≤ 100000) (hs : s.size ≤ 100000) (hb : n < 0 ∨ rl s < n) : DoOk ⟨20, s, n, f, b⟩ l k kept (-1) l k kept false true := fun eb w h => by
  have H1 : Hid (Ed (w.alloc (.cells #[.int .i64 20, .string s, .int .i64 n, .bool f, .bool b] 30)) eb l k kept false false) := h.same ((Below.refl _ _).alloc (Nat.le_refl _) _)
  have K1 : Hid (EdK eb w (w.alloc (.cells #[.int .i64 20, .string s, .int .i64 n, .bool f, .bool b] 30))) := (EdK.refl _ _).alloc _
  obtain ⟨A, cap, B, cap2, hv⟩ := H1.out
  have HV := Go.Lib.hid hv
  have c0 := hv.c0
  have c1 := hv.c1
  have c3 := hv.c3
  have c4 := hv.c4
  have f1 := hv.f 1
  have z1 := hv.sz
  clear h hv
  unfold Ky.val
  have HM := Go.Lib.hid (more_set_open l k kept s n f b hk hl hs hb eb _ H1.out)
  go_enter Tryd.func7, Tryd.ntmps7
  go_wp2_with fail
  refine HM.out.mono ?_
  rintro e w1 ⟨rfl, h1, o1⟩
  have HE := Go.Lib.hid h1
  have O1 : Hid (EdK eb w w1) := K1.out.trans o1
  clear h1 o1
  go_wp2_with fail
  go_returns
  exact ⟨rfl, HE.out, O1.out⟩

set_option maxRecDepth 100000 in
set_option maxHeartbeats 2000000 in
theorem more_set (l : List Int) (k : Nat) (kept : List Int) (s : ByteArray) (n : Int) (f b : Bool) (hk : k ≤ l.length) (hl : l.length ≤ 100000) (hs : s.size ≤ 100000) (h0 : 0 ≤ n) (h1 : n ≤ rl s) (eb : Nat) (w : World) (h : Ed w eb l k kept false false) : Calls Tryd.prog 20 #[.pointer (some ⟨eb, 0, none⟩), .agg #[.int .i64 20, .string s, .int .i64 n, .bool f, .bool b]] w (DoPost eb (-1) (runes s) n.toNat kept false false w) := by
  have H1 : Hid (Ed (w.alloc (.cells #[.int .i64 20, .string s, .int .i64 n, .bool f, .bool b] 30)) eb l k kept false false) := h.same ((Below.refl _ _).alloc (Nat.le_refl _) _)
  have K1 : Hid (EdK eb w (w.alloc (.cells #[.int .i64 20, .string s, .int .i64 n, .bool f, .bool b] 30))) := (EdK.refl _ _).alloc _
  obtain ⟨A, cap, B, cap2, hv⟩ := H1.out
  have HV := Go.Lib.hid hv
  have c0 := hv.c0
  have c1 := hv.c1
  have f4 := hv.f 4
  have c4 := hv.c4
  have c2 := hv.c2
  have f1 := hv.f 1
  have f0 := hv.f 0
  have z1 := hv.sz
  have hz : eb < w.heap.size := by obtain ⟨_, _, _, _, h⟩ := h; exact h.sz
  clear h hv
  obtain ⟨capS, W, hcv, hrow, hbW⟩ := row_runes (w.alloc (.cells #[.int .i64 20, .string s, .int .i64 n, .bool f, .bool b] 30)) (w.alloc (.cells #[.int .i64 20, .string s, .int .i64 n, .bool f, .bool b] 30)).heap.size s hs (Nat.le_refl _)
  have k2 : (w.alloc (.cells #[.int .i64 20, .string s, .int .i64 n, .bool f, .bool b] 30)).cell? ⟨w.heap.size, 2, none⟩ = some (.int .i64 n) := by simp [go_sem]
  have k2W := (hbW.cell (p := ⟨w.heap.size, 2, none⟩) (by simp)).trans k2
  have VW := Go.Lib.hid (HV.out.same hbW)
  have KW : Hid (EdK eb w W) := K1.out.trans (.of hbW)
  unfold rl at h1
  obtain ⟨i, rfl⟩ := Int.eq_ofNat_of_zero_le h0
  rw [Int.toNat_natCast]
  obtain ⟨p1, p2, p3⟩ := row_rw (eb := eb) hrow (by simp; omega)
  rw [show (w.alloc (.cells #[.int .i64 20, .string s, .int .i64 (i : Nat), .bool f, .bool b] 30)).heap.size = w.heap.size + 1 by simp] at hcv p1 p3
  have V2 := ((VW.out.same (Below.refl W.heap.size W).drew).line (p1.kept (w' := W.drew) (Nat.le_refl _) (fun _ _ _ => rfl)) p2 p3)
  have V3 := Go.Lib.hid (V2.at i)
  have e1 : ¬ ((runes s).length : Int) < (i : Int) := by omega
  have g0 : (W.drew.setCell ⟨eb, 0, none⟩ (.slice (some ⟨w.heap.size + 1, 0, none⟩) (runes s).length capS)).cell? ⟨w.heap.size, 2, none⟩ = some (.int .i64 (i : Nat)) := (World.cell?_setCell_other _ _ _ _ (by intro e; have := congrArg Addr.block e; simp at this; omega)).trans k2W
  have a0 := VW.out.f 0
  have a1 := VW.out.f 1
  have b0 := VW.out.c0
  have b1 := VW.out.c1
  have zW := VW.out.sz
  generalize (runes s).length = ln at hcv V3 e1 g0
  generalize runes s = rs at V3 ⊢
  clear hrow hbW c1 c2 c4 f4 f1 f0 hs h0 h1 p1 p2 p3 V2 k2
  go_enter Tryd.func20, Tryd.ntmps20
  go_wp2_with fail
  refine region_held_tail 8 (S := (fun w' => w'.cell? ⟨w.heap.size, 2, none⟩ = some (.int .i64 (i : Nat)))) (by kernel_rfl) (by kernel_rfl) ?_ (fun hHeld => ?_)
  · (try dsimp only); first | done | (first | exact k2W | exact g0)
  refine HeldT.take (i := 0) (v := ?_) (by simp only [List.getElem?_toArray, List.getElem?_cons_succ, List.getElem?_cons_zero]; rfl) (by kernel_rfl) (by kernel_rfl) (by kernel_rfl) (by kernel_rfl) (by exact fun _ _ _ h => h) ?_ (by assumption) ?_
  rotate_left
  · refine Or.inl ⟨by rfl, ?_⟩
    (intro w hSw; (try dsimp only at hSw); go_simp; try with_reducible rfl)
  try simp only [Act.put, List.setIfInBounds_toArray, List.set_cons_zero, List.set_cons_succ]
  refine HeldT.take (i := 1) (v := ?_) (by simp only [List.getElem?_toArray, List.getElem?_cons_succ, List.getElem?_cons_zero]; rfl) (by kernel_rfl) (by kernel_rfl) (by kernel_rfl) (by kernel_rfl) (by exact fun _ _ _ h => h) ?_ (by assumption) ?_
  rotate_left
  · refine Or.inl ⟨by rfl, ?_⟩
    (intro w hSw; (try dsimp only at hSw); go_simp; try with_reducible rfl)
  try simp only [Act.put, List.setIfInBounds_toArray, List.set_cons_zero, List.set_cons_succ]
  refine HeldT.take (i := 2) (v := ?_) (by simp only [List.getElem?_toArray, List.getElem?_cons_succ, List.getElem?_cons_zero]; rfl) (by kernel_rfl) (by kernel_rfl) (by kernel_rfl) (by kernel_rfl) (by exact fun _ _ _ h => h) ?_ (by assumption) ?_
  rotate_left
  · refine Or.inl ⟨by rfl, ?_⟩
    (intro w hSw; (try dsimp only at hSw); go_simp; try with_reducible rfl)
  try simp only [Act.put, List.setIfInBounds_toArray, List.set_cons_zero, List.set_cons_succ]
  refine HeldT.take (i := 3) (v := ?_) (by simp only [List.getElem?_toArray, List.getElem?_cons_succ, List.getElem?_cons_zero]; rfl) (by kernel_rfl) (by kernel_rfl) (by kernel_rfl) (by kernel_rfl) (by exact fun _ _ _ h => h) ?_ (by assumption) ?_
  rotate_left
  · refine Or.inl ⟨by rfl, ?_⟩
    (intro w hSw; (try dsimp only at hSw); go_simp; try with_reducible rfl)
  try simp only [Act.put, List.setIfInBounds_toArray, List.set_cons_zero, List.set_cons_succ]
  refine HeldT.take (i := 4) (v := ?_) (by simp only [List.getElem?_toArray, List.getElem?_cons_succ, List.getElem?_cons_zero]; rfl) (by kernel_rfl) (by kernel_rfl) (by kernel_rfl) (by kernel_rfl) (by exact fun _ _ _ h => h) ?_ (by assumption) ?_
  rotate_left
  · refine Or.inl ⟨by rfl, ?_⟩
    (intro w hSw; (try dsimp only at hSw); go_simp; try with_reducible rfl)
  try simp only [Act.put, List.setIfInBounds_toArray, List.set_cons_zero, List.set_cons_succ]
  refine HeldT.take (i := 5) (v := ?_) (by simp only [List.getElem?_toArray, List.getElem?_cons_succ, List.getElem?_cons_zero]; rfl) (by kernel_rfl) (by kernel_rfl) (by kernel_rfl) (by kernel_rfl) (by exact fun _ _ _ h => h) ?_ (by assumption) ?_
  rotate_left
  · refine Or.inl ⟨by rfl, ?_⟩
    (intro w hSw; (try dsimp only at hSw); go_simp; try with_reducible rfl)
  try simp only [Act.put, List.setIfInBounds_toArray, List.set_cons_zero, List.set_cons_succ]
  refine HeldT.take (i := 6) (v := ?_) (by simp only [List.getElem?_toArray, List.getElem?_cons_succ, List.getElem?_cons_zero]; rfl) (by kernel_rfl) (by kernel_rfl) (by kernel_rfl) (by kernel_rfl) (by exact fun _ _ _ h => h) ?_ (by assumption) ?_
  rotate_left
  · refine Or.inl ⟨by rfl, ?_⟩
    (intro w hSw; (try dsimp only at hSw); go_simp; try with_reducible rfl)
  try simp only [Act.put, List.setIfInBounds_toArray, List.set_cons_zero, List.set_cons_succ]
  refine HeldT.one (i := 7) (by simp only [List.getElem?_toArray, List.getElem?_cons_succ, List.getElem?_cons_zero]; rfl) (by kernel_rfl) (by kernel_rfl) (fun K hK => ?_)
  go_simp
  refine hK.out _ _ ?_ (fun hHeld => ?_)
  · (try dsimp only); first | done | (first | exact k2W | exact g0)
  clear hK K
  try simp only [Act.put, List.setIfInBounds_toArray, List.set_cons_zero, List.set_cons_succ]
  refine HeldT.tail (by kernel_rfl) rfl ?_
  clear hHeld
  go_wp2_with fail
  go_returns
  exact ⟨rfl, ⟨_, _, _, _, V3.out⟩, ((KW.out.drewN 1).set _ _).set _ _⟩

set_option maxRecDepth 100000 in
set_option maxHeartbeats 2000000 in
theorem do_set (l : List Int) (k : Nat) (kept : List Int) (s : ByteArray) (n : Int) (f b : Bool) (hk : k ≤ l.length) (hl : l.length ≤ 100000) (hs : s.size ≤ 100000) (h0 : 0 ≤ n) (h1 : n ≤ rl s) : DoOk ⟨20, s, n, f, b⟩ l k kept (-1) (runes s) n.toNat kept false false := fun eb w h => by
  have H1 : Hid (Ed (w.alloc (.cells #[.int .i64 20, .string s, .int .i64 n, .bool f, .bool b] 30)) eb l k kept false false) := h.same ((Below.refl _ _).alloc (Nat.le_refl _) _)
  have K1 : Hid (EdK eb w (w.alloc (.cells #[.int .i64 20, .string s, .int .i64 n, .bool f, .bool b] 30))) := (EdK.refl _ _).alloc _
  obtain ⟨A, cap, B, cap2, hv⟩ := H1.out
  have HV := Go.Lib.hid hv
  have c0 := hv.c0
  have c1 := hv.c1
  have c3 := hv.c3
  have c4 := hv.c4
  have f1 := hv.f 1
  have z1 := hv.sz
  have hz : eb < w.heap.size := by obtain ⟨_, _, _, _, h⟩ := h; exact h.sz
  clear h hv
  unfold Ky.val
  have HM := Go.Lib.hid (more_set l k kept s n f b hk hl hs h0 h1 eb _ H1.out)
  generalize (runes s) = q1 at HM ⊢
  go_enter Tryd.func7, Tryd.ntmps7
  go_wp2_with fail
  refine HM.out.mono ?_
  rintro e w1 ⟨rfl, h1, o1⟩
  have HE := Go.Lib.hid h1
  have O1 : Hid (EdK eb w w1) := K1.out.trans o1
  clear h1 o1
  go_wp2_with fail
  go_returns
  exact ⟨rfl, HE.out, O1.out⟩
end Go.Proofs.YtoimdbmjpkmkfaaDoor
