/- spec.Editor.Do at each kind of step (printed by wip/gen/mkedsteps.py). -/
import Derived.Test.YtoimdbmjpkmkfaaDoorEdWords
namespace Go.Proofs.YtoimdbmjpkmkfaaDoor
open Go.RowKit
set_option linter.unusedVariables false
set_option linter.unusedSimpArgs false

theorem StepPost.do_ {eb : Nat} {l' : List Int} {k' : Nat} {kept' : List Int} {w0 w w' : World} (h : Ed w' eb l' k' kept' false false ∧ EdK eb w w') (h0 : EdK eb w0 w) (m : Int) : DoPost eb m l' k' kept' false false w0 (.returned (.int .i64 m)) w' := ⟨rfl, h.1, h0.trans h.2⟩

set_option maxRecDepth 100000 in
set_option maxHeartbeats 2000000 in
theorem do_forward (l : List Int) (k : Nat) (kept : List Int) (s : ByteArray) (n : Int) (f b : Bool) (hk : k ≤ l.length) (hl : l.length ≤ 100000) : DoOk ⟨2, s, n, f, b⟩ l k kept (-1) l (min (k + 1) l.length) kept false false := fun eb w h => by
  have H1 : Hid (Ed (w.alloc (.cells #[.int .i64 2, .string s, .int .i64 n, .bool f, .bool b] 30)) eb l k kept false false) := h.same ((Below.refl _ _).alloc (Nat.le_refl _) _)
  have K1 : Hid (EdK eb w (w.alloc (.cells #[.int .i64 2, .string s, .int .i64 n, .bool f, .bool b] 30))) := (EdK.refl _ _).alloc _
  obtain ⟨A, cap, B, cap2, hv⟩ := H1.out
  have HV := Go.Lib.hid hv
  have c0 := hv.c0
  have c1 := hv.c1
  have c3 := hv.c3
  have c4 := hv.c4
  have f1 := hv.f 1
  have z1 := hv.sz
  clear h hv
  unfold Ky.val
  obtain ⟨m, hm⟩ : ∃ m, m = min (k + 1) l.length := ⟨_, rfl⟩
  rw [← hm]
  by_cases e : l.length ≤ k
  · have hi : ((l.length : Nat) : Int) = (m : Nat) := by omega
    have HE : Hid (m = l.length) := by show m = l.length; omega
    clear hm hi
    go_enter Tryd.func7, Tryd.ntmps7
    go_wp2_with fail
    all_goals first
      | (exfalso; omega)
      | (go_returns; exact ⟨rfl, ⟨_, _, _, _, by rw [HE.out]; exact HV.out.at l.length⟩, K1.out.set _ _⟩)
  · have HE : Hid (m = k + 1) := by show m = k + 1; omega
    clear hm
    go_enter Tryd.func7, Tryd.ntmps7
    go_wp2_with fail
    all_goals first
      | (exfalso; omega)
      | (go_returns; exact ⟨rfl, ⟨_, _, _, _, by rw [HE.out]; exact HV.out.at (k + 1)⟩, K1.out.set _ _⟩)

set_option maxRecDepth 100000 in
set_option maxHeartbeats 2000000 in
theorem do_start (l : List Int) (k : Nat) (kept : List Int) (s : ByteArray) (n : Int) (f b : Bool) (hk : k ≤ l.length) (hl : l.length ≤ 100000) : DoOk ⟨4, s, n, f, b⟩ l k kept (-1) l 0 kept false false := fun eb w h => by
  have H1 : Hid (Ed (w.alloc (.cells #[.int .i64 4, .string s, .int .i64 n, .bool f, .bool b] 30)) eb l k kept false false) := h.same ((Below.refl _ _).alloc (Nat.le_refl _) _)
  have K1 : Hid (EdK eb w (w.alloc (.cells #[.int .i64 4, .string s, .int .i64 n, .bool f, .bool b] 30))) := (EdK.refl _ _).alloc _
  obtain ⟨A, cap, B, cap2, hv⟩ := H1.out
  have HV := Go.Lib.hid hv
  have c0 := hv.c0
  have c1 := hv.c1
  have c3 := hv.c3
  have c4 := hv.c4
  have f1 := hv.f 1
  have z1 := hv.sz
  clear h hv
  unfold Ky.val
  go_enter Tryd.func7, Tryd.ntmps7
  go_wp2_with fail
  go_returns
  exact ⟨rfl, ⟨_, _, _, _, HV.out.at 0⟩, K1.out.set _ _⟩

set_option maxRecDepth 100000 in
set_option maxHeartbeats 2000000 in
theorem do_end (l : List Int) (k : Nat) (kept : List Int) (s : ByteArray) (n : Int) (f b : Bool) (hk : k ≤ l.length) (hl : l.length ≤ 100000) : DoOk ⟨5, s, n, f, b⟩ l k kept (-1) l l.length kept false false := fun eb w h => by
  have H1 : Hid (Ed (w.alloc (.cells #[.int .i64 5, .string s, .int .i64 n, .bool f, .bool b] 30)) eb l k kept false false) := h.same ((Below.refl _ _).alloc (Nat.le_refl _) _)
  have K1 : Hid (EdK eb w (w.alloc (.cells #[.int .i64 5, .string s, .int .i64 n, .bool f, .bool b] 30))) := (EdK.refl _ _).alloc _
  obtain ⟨A, cap, B, cap2, hv⟩ := H1.out
  have HV := Go.Lib.hid hv
  have c0 := hv.c0
  have c1 := hv.c1
  have c3 := hv.c3
  have c4 := hv.c4
  have f1 := hv.f 1
  have z1 := hv.sz
  clear h hv
  unfold Ky.val
  go_enter Tryd.func7, Tryd.ntmps7
  go_wp2_with fail
  go_returns
  exact ⟨rfl, ⟨_, _, _, _, HV.out.at l.length⟩, K1.out.set _ _⟩

set_option maxRecDepth 100000 in
set_option maxHeartbeats 2000000 in
theorem do_delete_none (l : List Int) (k : Nat) (kept : List Int) (s : ByteArray) (n : Int) (f b : Bool) (hk : k ≤ l.length) (hl : l.length ≤ 100000) (h0 : k = l.length) : DoOk ⟨6, s, n, f, b⟩ l k kept (0) l k kept false false := fun eb w h => by
  have H1 : Hid (Ed (w.alloc (.cells #[.int .i64 6, .string s, .int .i64 n, .bool f, .bool b] 30)) eb l k kept false false) := h.same ((Below.refl _ _).alloc (Nat.le_refl _) _)
  have K1 : Hid (EdK eb w (w.alloc (.cells #[.int .i64 6, .string s, .int .i64 n, .bool f, .bool b] 30))) := (EdK.refl _ _).alloc _
  obtain ⟨A, cap, B, cap2, hv⟩ := H1.out
  have HV := Go.Lib.hid hv
  have c0 := hv.c0
  have c1 := hv.c1
  have c3 := hv.c3
  have c4 := hv.c4
  have f1 := hv.f 1
  have z1 := hv.sz
  clear h hv
  unfold Ky.val
  have e0 : ((k : Int) == (l.length : Int)) = true := by simp; omega
  have H0 := Go.Lib.hid h0
  clear h0
  go_enter Tryd.func7, Tryd.ntmps7
  go_wp2_with fail
  go_returns
  exact ⟨rfl, ⟨_, _, _, _, HV.out⟩, K1.out⟩

set_option maxRecDepth 100000 in
set_option maxHeartbeats 2000000 in
theorem do_delete (l : List Int) (k : Nat) (kept : List Int) (s : ByteArray) (n : Int) (f b : Bool) (hk : k ≤ l.length) (hl : l.length ≤ 100000) (h0 : k < l.length) : DoOk ⟨6, s, n, f, b⟩ l k kept (1) (without l k (k + 1)) k ((l.take (k + 1)).drop k) false false := fun eb w h => by
  have H1 : Hid (Ed (w.alloc (.cells #[.int .i64 6, .string s, .int .i64 n, .bool f, .bool b] 30)) eb l k kept false false) := h.same ((Below.refl _ _).alloc (Nat.le_refl _) _)
  have K1 : Hid (EdK eb w (w.alloc (.cells #[.int .i64 6, .string s, .int .i64 n, .bool f, .bool b] 30))) := (EdK.refl _ _).alloc _
  obtain ⟨A, cap, B, cap2, hv⟩ := H1.out
  have HV := Go.Lib.hid hv
  have c0 := hv.c0
  have c1 := hv.c1
  have c3 := hv.c3
  have c4 := hv.c4
  have f1 := hv.f 1
  have z1 := hv.sz
  clear h hv
  unfold Ky.val
  have e0 : ((k : Int) == (l.length : Int)) = false := by simp; omega
  obtain ⟨m, hm⟩ : ∃ m, m = k + 1 := ⟨_, rfl⟩
  have hw : IntKind.i64.wrap ((k : Int) + 1) = (m : Nat) := by rw [IntWalk.i64_in _ (by omega)]; omega
  have HC := Go.Lib.hid fun w (h : Ed w eb l k kept false false) => ed_cut eb l k kept k m w h (by omega) (by omega) hl true _ rfl
  rw [← hm]
  clear hm
  go_enter Tryd.func7, Tryd.ntmps7
  go_wp2_with fail
  refine region_quiet_tail 10 (by kernel_rfl) (by kernel_rfl) ?_
  simp only [List.take_succ_cons, List.take_zero, List.drop_succ_cons, List.drop_zero]
  repeat (go_big_quiet_step (fail))
  refine wpQuiet_nil ?_
  intro _ hw'
  obtain ⟨nq, hw''⟩ := hw'
  subst hw''
  go_wp2_with fail
  refine (HC.out _ (H1.out.same (below_drewN (Below.refl _ _) _))).mono ?_
  rintro e w1 ⟨rfl, h1, o1⟩
  have HE := Go.Lib.hid h1
  have O1 : Hid (EdK eb w w1) := (K1.out.drewN _).trans o1
  clear h1 o1
  go_wp2_with fail
  go_returns
  exact ⟨rfl, HE.out, O1.out⟩

set_option maxRecDepth 100000 in
set_option maxHeartbeats 2000000 in
theorem more_kill (l : List Int) (k : Nat) (kept : List Int) (s : ByteArray) (n : Int) (f b : Bool) (hk : k ≤ l.length) (hl : l.length ≤ 100000) (eb : Nat) (w : World) (h : Ed w eb l k kept false false) : Calls Tryd.prog 20 #[.pointer (some ⟨eb, 0, none⟩), .agg #[.int .i64 15, .string s, .int .i64 n, .bool f, .bool b]] w (DoPost eb (-1) (without l k l.length) k ((l.take l.length).drop k) false false w) := by
  have H1 : Hid (Ed (w.alloc (.cells #[.int .i64 15, .string s, .int .i64 n, .bool f, .bool b] 30)) eb l k kept false false) := h.same ((Below.refl _ _).alloc (Nat.le_refl _) _)
  have K1 : Hid (EdK eb w (w.alloc (.cells #[.int .i64 15, .string s, .int .i64 n, .bool f, .bool b] 30))) := (EdK.refl _ _).alloc _
  obtain ⟨A, cap, B, cap2, hv⟩ := H1.out
  have HV := Go.Lib.hid hv
  have c0 := hv.c0
  have c1 := hv.c1
  have f4 := hv.f 4
  have c4 := hv.c4
  have c2 := hv.c2
  have f1 := hv.f 1
  have f0 := hv.f 0
  have z1 := hv.sz
  clear h hv
  have HC := Go.Lib.hid fun w (h : Ed w eb l k kept false false) => ed_cut eb l k kept k l.length w h hk (Nat.le_refl _) hl true _ rfl
  go_enter Tryd.func20, Tryd.ntmps20
  go_wp2_with fail
  refine (HC.out _ H1.out).mono ?_
  rintro e w1 ⟨rfl, h1, o1⟩
  have HE := Go.Lib.hid h1
  have O1 : Hid (EdK eb w w1) := K1.out.trans o1
  clear h1 o1
  go_wp2_with fail
  go_returns
  exact ⟨rfl, HE.out, O1.out⟩

set_option maxRecDepth 100000 in
set_option maxHeartbeats 2000000 in
theorem do_kill (l : List Int) (k : Nat) (kept : List Int) (s : ByteArray) (n : Int) (f b : Bool) (hk : k ≤ l.length) (hl : l.length ≤ 100000) : DoOk ⟨15, s, n, f, b⟩ l k kept (-1) (without l k l.length) k ((l.take l.length).drop k) false false := fun eb w h => by
  have H1 : Hid (Ed (w.alloc (.cells #[.int .i64 15, .string s, .int .i64 n, .bool f, .bool b] 30)) eb l k kept false false) := h.same ((Below.refl _ _).alloc (Nat.le_refl _) _)
  have K1 : Hid (EdK eb w (w.alloc (.cells #[.int .i64 15, .string s, .int .i64 n, .bool f, .bool b] 30))) := (EdK.refl _ _).alloc _
  obtain ⟨A, cap, B, cap2, hv⟩ := H1.out
  have HV := Go.Lib.hid hv
  have c0 := hv.c0
  have c1 := hv.c1
  have c3 := hv.c3
  have c4 := hv.c4
  have f1 := hv.f 1
  have z1 := hv.sz
  clear h hv
  unfold Ky.val
  have HM := Go.Lib.hid (more_kill l k kept s n f b hk hl eb _ H1.out)
  generalize ((l.take l.length).drop k) = q0 at HM ⊢
  generalize (without l k l.length) = q1 at HM ⊢
  go_enter Tryd.func7, Tryd.ntmps7
  go_wp2_with fail
  refine HM.out.mono ?_
  rintro e w1 ⟨rfl, h1, o1⟩
  have HE := Go.Lib.hid h1
  have O1 : Hid (EdK eb w w1) := K1.out.trans o1
  clear h1 o1
  go_wp2_with fail
  go_returns
  exact ⟨rfl, HE.out, O1.out⟩

set_option maxRecDepth 100000 in
set_option maxHeartbeats 2000000 in
theorem more_killfront (l : List Int) (k : Nat) (kept : List Int) (s : ByteArray) (n : Int) (f b : Bool) (hk : k ≤ l.length) (hl : l.length ≤ 100000) (h0 : 0 < k) (eb : Nat) (w : World) (h : Ed w eb l k kept false false) : Calls Tryd.prog 20 #[.pointer (some ⟨eb, 0, none⟩), .agg #[.int .i64 16, .string s, .int .i64 n, .bool f, .bool b]] w (DoPost eb (-1) (without l 0 k) 0 ((l.take k).drop 0) false false w) := by
  have H1 : Hid (Ed (w.alloc (.cells #[.int .i64 16, .string s, .int .i64 n, .bool f, .bool b] 30)) eb l k kept false false) := h.same ((Below.refl _ _).alloc (Nat.le_refl _) _)
  have K1 : Hid (EdK eb w (w.alloc (.cells #[.int .i64 16, .string s, .int .i64 n, .bool f, .bool b] 30))) := (EdK.refl _ _).alloc _
  obtain ⟨A, cap, B, cap2, hv⟩ := H1.out
  have HV := Go.Lib.hid hv
  have c0 := hv.c0
  have c1 := hv.c1
  have f4 := hv.f 4
  have c4 := hv.c4
  have c2 := hv.c2
  have f1 := hv.f 1
  have f0 := hv.f 0
  have z1 := hv.sz
  clear h hv
  have HC := Go.Lib.hid fun w (h : Ed w eb l k kept false false) => ed_cut eb l k kept 0 k w h (by omega) hk hl true _ rfl
  have e0 : (0 : Int) < k := by omega
  go_enter Tryd.func20, Tryd.ntmps20
  go_wp2_with fail
  refine (HC.out _ H1.out).mono ?_
  rintro e w1 ⟨rfl, h1, o1⟩
  have HE := Go.Lib.hid h1
  have O1 : Hid (EdK eb w w1) := K1.out.trans o1
  clear h1 o1
  go_wp2_with fail
  go_returns
  exact ⟨rfl, HE.out, O1.out⟩

set_option maxRecDepth 100000 in
set_option maxHeartbeats 2000000 in
theorem do_killfront (l : List Int) (k : Nat) (kept : List Int) (s : ByteArray) (n : Int) (f b : Bool) (hk : k ≤ l.length) (hl : l.length ≤ 100000) (h0 : 0 < k) : DoOk ⟨16, s, n, f, b⟩ l k kept (-1) (without l 0 k) 0 ((l.take k).drop 0) false false := fun eb w h => by
  have H1 : Hid (Ed (w.alloc (.cells #[.int .i64 16, .string s, .int .i64 n, .bool f, .bool b] 30)) eb l k kept false false) := h.same ((Below.refl _ _).alloc (Nat.le_refl _) _)
  have K1 : Hid (EdK eb w (w.alloc (.cells #[.int .i64 16, .string s, .int .i64 n, .bool f, .bool b] 30))) := (EdK.refl _ _).alloc _
  obtain ⟨A, cap, B, cap2, hv⟩ := H1.out
  have HV := Go.Lib.hid hv
  have c0 := hv.c0
  have c1 := hv.c1
  have c3 := hv.c3
  have c4 := hv.c4
  have f1 := hv.f 1
  have z1 := hv.sz
  clear h hv
  unfold Ky.val
  have HM := Go.Lib.hid (more_killfront l k kept s n f b hk hl h0 eb _ H1.out)
  generalize ((l.take k).drop 0) = q0 at HM ⊢
  generalize (without l 0 k) = q1 at HM ⊢
  go_enter Tryd.func7, Tryd.ntmps7
  go_wp2_with fail
  refine HM.out.mono ?_
  rintro e w1 ⟨rfl, h1, o1⟩
  have HE := Go.Lib.hid h1
  have O1 : Hid (EdK eb w w1) := K1.out.trans o1
  clear h1 o1
  go_wp2_with fail
  go_returns
  exact ⟨rfl, HE.out, O1.out⟩

set_option maxRecDepth 100000 in
set_option maxHeartbeats 2000000 in
theorem more_killfront_none (l : List Int) (k : Nat) (kept : List Int) (s : ByteArray) (n : Int) (f b : Bool) (hk : k ≤ l.length) (hl : l.length ≤ 100000) (h0 : k = 0) (eb : Nat) (w : World) (h : Ed w eb l k kept false false) : Calls Tryd.prog 20 #[.pointer (some ⟨eb, 0, none⟩), .agg #[.int .i64 16, .string s, .int .i64 n, .bool f, .bool b]] w (DoPost eb (-1) l k kept false false w) := by
  have H1 : Hid (Ed (w.alloc (.cells #[.int .i64 16, .string s, .int .i64 n, .bool f, .bool b] 30)) eb l k kept false false) := h.same ((Below.refl _ _).alloc (Nat.le_refl _) _)
  have K1 : Hid (EdK eb w (w.alloc (.cells #[.int .i64 16, .string s, .int .i64 n, .bool f, .bool b] 30))) := (EdK.refl _ _).alloc _
  obtain ⟨A, cap, B, cap2, hv⟩ := H1.out
  have HV := Go.Lib.hid hv
  have c0 := hv.c0
  have c1 := hv.c1
  have f4 := hv.f 4
  have c4 := hv.c4
  have c2 := hv.c2
  have f1 := hv.f 1
  have f0 := hv.f 0
  have z1 := hv.sz
  clear h hv
  subst h0
  go_enter Tryd.func20, Tryd.ntmps20
  go_wp2_with fail
  go_returns
  exact ⟨rfl, ⟨_, _, _, _, HV.out⟩, K1.out⟩

set_option maxRecDepth 100000 in
set_option maxHeartbeats 2000000 in
theorem do_killfront_none (l : List Int) (k : Nat) (kept : List Int) (s : ByteArray) (n : Int) (f b : Bool) (hk : k ≤ l.length) (hl : l.length ≤ 100000) (h0 : k = 0) : DoOk ⟨16, s, n, f, b⟩ l k kept (-1) l k kept false false := fun eb w h => by
  have H1 : Hid (Ed (w.alloc (.cells #[.int .i64 16, .string s, .int .i64 n, .bool f, .bool b] 30)) eb l k kept false false) := h.same ((Below.refl _ _).alloc (Nat.le_refl _) _)
  have K1 : Hid (EdK eb w (w.alloc (.cells #[.int .i64 16, .string s, .int .i64 n, .bool f, .bool b] 30))) := (EdK.refl _ _).alloc _
  obtain ⟨A, cap, B, cap2, hv⟩ := H1.out
  have HV := Go.Lib.hid hv
  have c0 := hv.c0
  have c1 := hv.c1
  have c3 := hv.c3
  have c4 := hv.c4
  have f1 := hv.f 1
  have z1 := hv.sz
  clear h hv
  unfold Ky.val
  have HM := Go.Lib.hid (more_killfront_none l k kept s n f b hk hl h0 eb _ H1.out)
  go_enter Tryd.func7, Tryd.ntmps7
  go_wp2_with fail
  refine HM.out.mono ?_
  rintro e w1 ⟨rfl, h1, o1⟩
  have HE := Go.Lib.hid h1
  have O1 : Hid (EdK eb w w1) := K1.out.trans o1
  clear h1 o1
  go_wp2_with fail
  go_returns
  exact ⟨rfl, HE.out, O1.out⟩

set_option maxRecDepth 100000 in
set_option maxHeartbeats 2000000 in
theorem more_backword (l : List Int) (k : Nat) (kept : List Int) (s : ByteArray) (n : Int) (f b : Bool) (hk : k ≤ l.length) (hl : l.length ≤ 100000) (h0 : befW l k ≠ -1) (eb : Nat) (w : World) (h : Ed w eb l k kept false false) : Calls Tryd.prog 20 #[.pointer (some ⟨eb, 0, none⟩), .agg #[.int .i64 14, .string s, .int .i64 n, .bool f, .bool b]] w (DoPost eb (-1) (without l (befW l k).toNat k) (befW l k).toNat ((l.take k).drop (befW l k).toNat) false false w) := by
  have H1 : Hid (Ed (w.alloc (.cells #[.int .i64 14, .string s, .int .i64 n, .bool f, .bool b] 30)) eb l k kept false false) := h.same ((Below.refl _ _).alloc (Nat.le_refl _) _)
  have K1 : Hid (EdK eb w (w.alloc (.cells #[.int .i64 14, .string s, .int .i64 n, .bool f, .bool b] 30))) := (EdK.refl _ _).alloc _
  obtain ⟨A, cap, B, cap2, hv⟩ := H1.out
  have HV := Go.Lib.hid hv
  have c0 := hv.c0
  have c1 := hv.c1
  have f4 := hv.f 4
  have c4 := hv.c4
  have c2 := hv.c2
  have f1 := hv.f 1
  have f0 := hv.f 0
  have z1 := hv.sz
  clear h hv
  have hge := befW_ge l k
  have hlt := befW_lt l k
  obtain ⟨i, hi⟩ : ∃ i : Nat, befW l k = i := Int.eq_ofNat_of_zero_le (by omega)
  have HB := Go.Lib.hid (before_any eb l k kept k _ H1.out hl hk)
  rw [hi] at HB ⊢
  rw [Int.toNat_natCast]
  have HC := Go.Lib.hid fun w (h : Ed w eb l k kept false false) => ed_cut eb l k kept i k w h (by omega) hk hl true _ rfl
  have hi0 : (0 : Int) ≤ i := by omega
  have hi1 : ¬ (i : Int) < 0 := by omega
  clear hge hlt hi h0
  go_enter Tryd.func20, Tryd.ntmps20
  go_wp2_with fail
  refine HB.out.mono ?_
  rintro e w2 ⟨rfl, rfl⟩
  go_wp2_with fail
  refine (HC.out _ H1.out).mono ?_
  rintro e w1 ⟨rfl, h1, o1⟩
  have HE := Go.Lib.hid h1
  have O1 : Hid (EdK eb w w1) := K1.out.trans o1
  clear h1 o1
  go_wp2_with fail
  go_returns
  exact ⟨rfl, HE.out, O1.out⟩

set_option maxRecDepth 100000 in
set_option maxHeartbeats 2000000 in
theorem do_backword (l : List Int) (k : Nat) (kept : List Int) (s : ByteArray) (n : Int) (f b : Bool) (hk : k ≤ l.length) (hl : l.length ≤ 100000) (h0 : befW l k ≠ -1) : DoOk ⟨14, s, n, f, b⟩ l k kept (-1) (without l (befW l k).toNat k) (befW l k).toNat ((l.take k).drop (befW l k).toNat) false false := fun eb w h => by
  have H1 : Hid (Ed (w.alloc (.cells #[.int .i64 14, .string s, .int .i64 n, .bool f, .bool b] 30)) eb l k kept false false) := h.same ((Below.refl _ _).alloc (Nat.le_refl _) _)
  have K1 : Hid (EdK eb w (w.alloc (.cells #[.int .i64 14, .string s, .int .i64 n, .bool f, .bool b] 30))) := (EdK.refl _ _).alloc _
  obtain ⟨A, cap, B, cap2, hv⟩ := H1.out
  have HV := Go.Lib.hid hv
  have c0 := hv.c0
  have c1 := hv.c1
  have c3 := hv.c3
  have c4 := hv.c4
  have f1 := hv.f 1
  have z1 := hv.sz
  clear h hv
  unfold Ky.val
  have HM := Go.Lib.hid (more_backword l k kept s n f b hk hl h0 eb _ H1.out)
  generalize ((l.take k).drop (befW l k).toNat) = q0 at HM ⊢
  generalize (without l (befW l k).toNat k) = q1 at HM ⊢
  generalize (befW l k).toNat = q2 at HM ⊢
  go_enter Tryd.func7, Tryd.ntmps7
  go_wp2_with fail
  refine HM.out.mono ?_
  rintro e w1 ⟨rfl, h1, o1⟩
  have HE := Go.Lib.hid h1
  have O1 : Hid (EdK eb w w1) := K1.out.trans o1
  clear h1 o1
  go_wp2_with fail
  go_returns
  exact ⟨rfl, HE.out, O1.out⟩

set_option maxRecDepth 100000 in
set_option maxHeartbeats 2000000 in
theorem more_backword_open (l : List Int) (k : Nat) (kept : List Int) (s : ByteArray) (n : Int) (f b : Bool) (hk : k ≤ l.length) (hl : l.length ≤ 100000) (h0 : befW l k = -1) (eb : Nat) (w : World) (h : Ed w eb l k kept false false) : Calls Tryd.prog 20 #[.pointer (some ⟨eb, 0, none⟩), .agg #[.int .i64 14, .string s, .int .i64 n, .bool f, .bool b]] w (DoPost eb (-1) l k kept false true w) := by
  have H1 : Hid (Ed (w.alloc (.cells #[.int .i64 14, .string s, .int .i64 n, .bool f, .bool b] 30)) eb l k kept false false) := h.same ((Below.refl _ _).alloc (Nat.le_refl _) _)
  have K1 : Hid (EdK eb w (w.alloc (.cells #[.int .i64 14, .string s, .int .i64 n, .bool f, .bool b] 30))) := (EdK.refl _ _).alloc _
  obtain ⟨A, cap, B, cap2, hv⟩ := H1.out
  have HV := Go.Lib.hid hv
  have c0 := hv.c0
  have c1 := hv.c1
  have f4 := hv.f 4
  have c4 := hv.c4
  have c2 := hv.c2
  have f1 := hv.f 1
  have f0 := hv.f 0
  have z1 := hv.sz
  clear h hv
  have HB := Go.Lib.hid (before_any eb l k kept k _ H1.out hl hk)
  rw [h0] at HB
  clear h0
  go_enter Tryd.func20, Tryd.ntmps20
  go_wp2_with fail
  refine HB.out.mono ?_
  rintro e w2 ⟨rfl, rfl⟩
  go_wp2_with fail
  go_returns
  exact ⟨rfl, ⟨_, _, _, _, HV.out.setOpen true⟩, K1.out.set _ _⟩

set_option maxRecDepth 100000 in
set_option maxHeartbeats 2000000 in
theorem do_backword_open (l : List Int) (k : Nat) (kept : List Int) (s : ByteArray) (n : Int) (f b : Bool) (hk : k ≤ l.length) (hl : l.length ≤ 100000) (h0 : befW l k = -1) : DoOk ⟨14, s, n, f, b⟩ l k kept (-1) l k kept false true := fun eb w h => by
  have H1 : Hid (Ed (w.alloc (.cells #[.int .i64 14, .string s, .int .i64 n, .bool f, .bool b] 30)) eb l k kept false false) := h.same ((Below.refl _ _).alloc (Nat.le_refl _) _)
  have K1 : Hid (EdK eb w (w.alloc (.cells #[.int .i64 14, .string s, .int .i64 n, .bool f, .bool b] 30))) := (EdK.refl _ _).alloc _
  obtain ⟨A, cap, B, cap2, hv⟩ := H1.out
  have HV := Go.Lib.hid hv
  have c0 := hv.c0
  have c1 := hv.c1
  have c3 := hv.c3
  have c4 := hv.c4
  have f1 := hv.f 1
  have z1 := hv.sz
  clear h hv
  unfold Ky.val
  have HM := Go.Lib.hid (more_backword_open l k kept s n f b hk hl h0 eb _ H1.out)
  go_enter Tryd.func7, Tryd.ntmps7
  go_wp2_with fail
  refine HM.out.mono ?_
  rintro e w1 ⟨rfl, h1, o1⟩
  have HE := Go.Lib.hid h1
  have O1 : Hid (EdK eb w w1) := K1.out.trans o1
  clear h1 o1
  go_wp2_with fail
  go_returns
  exact ⟨rfl, HE.out, O1.out⟩

set_option maxHeartbeats 2000000 in
theorem cutWord_any (eb : Nat) (l : List Int) (k : Nat) (kept : List Int) (w : World) (h : Ed w eb l k kept false false) (hk : k < l.length) (hl : l.length ≤ 100000) :
    Calls Tryd.prog 29 #[.pointer (some ⟨eb, 0, none⟩)] w (StepPost eb (without l k (cutTo l k)) k ((l.take (cutTo l k)).drop k) w) := by
  have H := Go.Lib.hid h
  obtain ⟨A, cap, B, cap2, hv⟩ := h
  have c0 := hv.c0
  have c1 := hv.c1
  have HR := Go.Lib.hid hv.r0
  have e0 : ((k : Int) == (l.length : Int)) = false := by simp; omega
  have hbd := cutTo_bd l k (by omega)
  have HC := Go.Lib.hid (ed_cut eb l k kept k (cutTo l k) w H.out hbd.1 hbd.2 hl true _ rfl)
  obtain ⟨c, hc⟩ : ∃ c, c = cutTo l k := ⟨_, rfl⟩
  rw [← hc] at HC hbd ⊢
  have HCT := Go.Lib.hid hc
  clear hv hc
  go_enter Tryd.func29, Tryd.ntmps29
  go_wp2_with fail
  go_loop [3] (fun x => ∃ m : Nat, x = .int .i64 m ∧ k ≤ m ∧ m ≤ l.length ∧ Hid (skipW l k = skipW l m)) (fun x => l.length - (intOf x).toNat)
  case atStart => exact ⟨k, rfl, Nat.le_refl _, by omega, rfl⟩
  case round =>
    obtain ⟨m, rfl, hm1, hm2, HS⟩ := hrel
    have fin : ∀ (hsk : skipW l k = m), Hid (c = if aftW l (m + 1) = -1 then l.length else (aftW l (m + 1)).toNat - 1) := fun hsk => by
      rw [Hid, HCT.out, cutTo, hsk]
    by_cases hml : m < l.length
    · have hb1 : (m : Int) < l.length := by omega
      have hb0 : (0 : Int) ≤ m := by omega
      have hst := skipW_step l m hml
      obtain ⟨b, off, rfl, cm⟩ := nth_cell HR.out m hml
      have HI := Go.Lib.hid (isword_any (nth l m) w)
      have hS := HS.out
      rw [hst] at hS
      generalize nth l m = x at cm HI hS
      generalize isW x = p at HI hS
      have HS2 := Go.Lib.hid hS
      clear hst hS
      cases p
      · clear fin
        go_wp2_with fail
        refine HI.out.mono ?_
        rintro e w1 ⟨rfl, rfl⟩
        go_wp2_with fail
        go_round
        case rel => exact ⟨m + 1, by go_num, by omega, by omega, HS2.out⟩
        case measure => simp [intOf] <;> omega
      · have FIN := fin HS2.out
        have HA := Go.Lib.hid (after_any eb l k kept m w H.out hl hm2)
        have habd := aftW_bd l (m + 1)
        generalize aftW l (m + 1) = a at FIN HA habd
        clear fin
        go_wp2_with fail
        refine HI.out.mono ?_
        rintro e w1 ⟨rfl, rfl⟩
        go_wp2_with fail
        refine HA.out.mono ?_
        rintro e w1 ⟨rfl, rfl⟩
        by_cases ha : a = -1
        · subst ha
          have hcl : c = l.length := by rw [FIN.out]; rfl
          clear habd FIN
          have HCL := Go.Lib.hid hcl
          clear hcl
          go_wp2_with fail
          rw [← HCL.out]
          refine HC.out.mono ?_
          rintro e w1 ⟨rfl, h1, o1⟩
          have HE := Go.Lib.hid h1
          have O1 := Go.Lib.hid o1
          clear h1 o1
          go_wp2_with fail
          go_returns
          exact ⟨rfl, HE.out, O1.out⟩
        · have hab := habd.2 ha
          have hcl : (c : Int) = a - 1 := by have := FIN.out; rw [if_neg ha] at this; omega
          have hw : IntKind.i64.wrap (a - 1) = (c : Nat) := by rw [IntWalk.i64_in _ (by omega)]; omega
          have ha0 : 0 ≤ a := by omega
          clear habd FIN ha hcl
          go_wp2_with fail
          refine HC.out.mono ?_
          rintro e w1 ⟨rfl, h1, o1⟩
          have HE := Go.Lib.hid h1
          have O1 := Go.Lib.hid o1
          clear h1 o1
          go_wp2_with fail
          go_returns
          exact ⟨rfl, HE.out, O1.out⟩
    · obtain rfl : m = l.length := by omega
      have hb1 : decide ((l.length : Int) < (l.length : Int)) = false := by simp
      have FIN := fin (HS.out.trans (skipW_end l l.length (Nat.le_refl _)))
      have HA := Go.Lib.hid (after_any eb l k kept l.length w H.out hl (Nat.le_refl _))
      have ha : aftW l (l.length + 1) = -1 := aftW_end l _ (by omega)
      rw [ha] at HA FIN
      have hcl : c = l.length := by rw [FIN.out]; rfl
      have HCL := Go.Lib.hid hcl
      clear fin FIN ha hcl
      go_wp2_with fail
      refine HA.out.mono ?_
      rintro e w1 ⟨rfl, rfl⟩
      go_wp2_with fail
      rw [← HCL.out]
      refine HC.out.mono ?_
      rintro e w1 ⟨rfl, h1, o1⟩
      have HE := Go.Lib.hid h1
      have O1 := Go.Lib.hid o1
      clear h1 o1
      go_wp2_with fail
      go_returns
      exact ⟨rfl, HE.out, O1.out⟩

theorem cutWord_none (eb : Nat) (l : List Int) (kept : List Int) (w : World) (h : Ed w eb l l.length kept false false) :
    Calls Tryd.prog 29 #[.pointer (some ⟨eb, 0, none⟩)] w (StepPost eb l l.length kept w) := by
  have H := Go.Lib.hid h
  obtain ⟨A, cap, B, cap2, hv⟩ := h
  have c0 := hv.c0
  have c1 := hv.c1
  clear hv
  go_enter Tryd.func29, Tryd.ntmps29
  go_wp2_with fail
  go_returns
  exact ⟨rfl, H.out, EdK.refl _ _⟩

set_option maxRecDepth 100000 in
set_option maxHeartbeats 2000000 in
theorem more_cutword (l : List Int) (k : Nat) (kept : List Int) (s : ByteArray) (n : Int) (f b : Bool) (hk : k ≤ l.length) (hl : l.length ≤ 100000) (h0 : k < l.length) (eb : Nat) (w : World) (h : Ed w eb l k kept false false) : Calls Tryd.prog 20 #[.pointer (some ⟨eb, 0, none⟩), .agg #[.int .i64 13, .string s, .int .i64 n, .bool f, .bool b]] w (DoPost eb (-1) (without l k (cutTo l k)) k ((l.take (cutTo l k)).drop k) false false w) := by
  have H1 : Hid (Ed (w.alloc (.cells #[.int .i64 13, .string s, .int .i64 n, .bool f, .bool b] 30)) eb l k kept false false) := h.same ((Below.refl _ _).alloc (Nat.le_refl _) _)
  have K1 : Hid (EdK eb w (w.alloc (.cells #[.int .i64 13, .string s, .int .i64 n, .bool f, .bool b] 30))) := (EdK.refl _ _).alloc _
  obtain ⟨A, cap, B, cap2, hv⟩ := H1.out
  have HV := Go.Lib.hid hv
  have c0 := hv.c0
  have c1 := hv.c1
  have f4 := hv.f 4
  have c4 := hv.c4
  have c2 := hv.c2
  have f1 := hv.f 1
  have f0 := hv.f 0
  have z1 := hv.sz
  clear h hv
  have HC := Go.Lib.hid fun w (h : Ed w eb l k kept false false) => cutWord_any eb l k kept w h h0 hl
  generalize cutTo l k = c at HC ⊢
  go_enter Tryd.func20, Tryd.ntmps20
  go_wp2_with fail
  refine (HC.out _ H1.out).mono ?_
  rintro e w1 ⟨rfl, h1, o1⟩
  have HE := Go.Lib.hid h1
  have O1 : Hid (EdK eb w w1) := K1.out.trans o1
  clear h1 o1
  go_wp2_with fail
  go_returns
  exact ⟨rfl, HE.out, O1.out⟩

set_option maxRecDepth 100000 in
set_option maxHeartbeats 2000000 in
theorem do_cutword (l : List Int) (k : Nat) (kept : List Int) (s : ByteArray) (n : Int) (f b : Bool) (hk : k ≤ l.length) (hl : l.length ≤ 100000) (h0 : k < l.length) : DoOk ⟨13, s, n, f, b⟩ l k kept (-1) (without l k (cutTo l k)) k ((l.take (cutTo l k)).drop k) false false := fun eb w h => by
  have H1 : Hid (Ed (w.alloc (.cells #[.int .i64 13, .string s, .int .i64 n, .bool f, .bool b] 30)) eb l k kept false false) := h.same ((Below.refl _ _).alloc (Nat.le_refl _) _)
  have K1 : Hid (EdK eb w (w.alloc (.cells #[.int .i64 13, .string s, .int .i64 n, .bool f, .bool b] 30))) := (EdK.refl _ _).alloc _
  obtain ⟨A, cap, B, cap2, hv⟩ := H1.out
  have HV := Go.Lib.hid hv
  have c0 := hv.c0
  have c1 := hv.c1
  have c3 := hv.c3
  have c4 := hv.c4
  have f1 := hv.f 1
  have z1 := hv.sz
  clear h hv
  unfold Ky.val
  have HM := Go.Lib.hid (more_cutword l k kept s n f b hk hl h0 eb _ H1.out)
  generalize ((l.take (cutTo l k)).drop k) = q0 at HM ⊢
  generalize (without l k (cutTo l k)) = q1 at HM ⊢
  go_enter Tryd.func7, Tryd.ntmps7
  go_wp2_with fail
  refine HM.out.mono ?_
  rintro e w1 ⟨rfl, h1, o1⟩
  have HE := Go.Lib.hid h1
  have O1 : Hid (EdK eb w w1) := K1.out.trans o1
  clear h1 o1
  go_wp2_with fail
  go_returns
  exact ⟨rfl, HE.out, O1.out⟩

set_option maxRecDepth 100000 in
set_option maxHeartbeats 2000000 in
theorem more_cutword_none (l : List Int) (k : Nat) (kept : List Int) (s : ByteArray) (n : Int) (f b : Bool) (hk : k ≤ l.length) (hl : l.length ≤ 100000) (h0 : k = l.length) (eb : Nat) (w : World) (h : Ed w eb l k kept false false) : Calls Tryd.prog 20 #[.pointer (some ⟨eb, 0, none⟩), .agg #[.int .i64 13, .string s, .int .i64 n, .bool f, .bool b]] w (DoPost eb (-1) l k kept false false w) := by
  have H1 : Hid (Ed (w.alloc (.cells #[.int .i64 13, .string s, .int .i64 n, .bool f, .bool b] 30)) eb l k kept false false) := h.same ((Below.refl _ _).alloc (Nat.le_refl _) _)
  have K1 : Hid (EdK eb w (w.alloc (.cells #[.int .i64 13, .string s, .int .i64 n, .bool f, .bool b] 30))) := (EdK.refl _ _).alloc _
  obtain ⟨A, cap, B, cap2, hv⟩ := H1.out
  have HV := Go.Lib.hid hv
  have c0 := hv.c0
  have c1 := hv.c1
  have f4 := hv.f 4
  have c4 := hv.c4
  have c2 := hv.c2
  have f1 := hv.f 1
  have f0 := hv.f 0
  have z1 := hv.sz
  clear h hv
  subst h0
  have HC := Go.Lib.hid fun w (h : Ed w eb l l.length kept false false) => cutWord_none eb l kept w h
  go_enter Tryd.func20, Tryd.ntmps20
  go_wp2_with fail
  refine (HC.out _ H1.out).mono ?_
  rintro e w1 ⟨rfl, h1, o1⟩
  have HE := Go.Lib.hid h1
  have O1 : Hid (EdK eb w w1) := K1.out.trans o1
  clear h1 o1
  go_wp2_with fail
  go_returns
  exact ⟨rfl, HE.out, O1.out⟩

set_option maxRecDepth 100000 in
set_option maxHeartbeats 2000000 in
theorem do_cutword_none (l : List Int) (k : Nat) (kept : List Int) (s : ByteArray) (n : Int) (f b : Bool) (hk : k ≤ l.length) (hl : l.length ≤ 100000) (h0 : k = l.length) : DoOk ⟨13, s, n, f, b⟩ l k kept (-1) l k kept false false := fun eb w h => by
  have H1 : Hid (Ed (w.alloc (.cells #[.int .i64 13, .string s, .int .i64 n, .bool f, .bool b] 30)) eb l k kept false false) := h.same ((Below.refl _ _).alloc (Nat.le_refl _) _)
  have K1 : Hid (EdK eb w (w.alloc (.cells #[.int .i64 13, .string s, .int .i64 n, .bool f, .bool b] 30))) := (EdK.refl _ _).alloc _
  obtain ⟨A, cap, B, cap2, hv⟩ := H1.out
  have HV := Go.Lib.hid hv
  have c0 := hv.c0
  have c1 := hv.c1
  have c3 := hv.c3
  have c4 := hv.c4
  have f1 := hv.f 1
  have z1 := hv.sz
  clear h hv
  unfold Ky.val
  have HM := Go.Lib.hid (more_cutword_none l k kept s n f b hk hl h0 eb _ H1.out)
  go_enter Tryd.func7, Tryd.ntmps7
  go_wp2_with fail
  refine HM.out.mono ?_
  rintro e w1 ⟨rfl, h1, o1⟩
  have HE := Go.Lib.hid h1
  have O1 : Hid (EdK eb w w1) := K1.out.trans o1
  clear h1 o1
  go_wp2_with fail
  go_returns
  exact ⟨rfl, HE.out, O1.out⟩
end Go.Proofs.YtoimdbmjpkmkfaaDoor
