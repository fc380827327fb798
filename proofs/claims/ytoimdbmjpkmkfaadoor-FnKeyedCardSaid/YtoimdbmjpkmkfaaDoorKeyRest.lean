/- impl.keyed at killfront at 0, at cutword at the end (printed by wip/gen/mkkeyrest.py). -/
import Derived.Test.YtoimdbmjpkmkfaaDoorKeyMore
namespace Go.Proofs.YtoimdbmjpkmkfaaDoor
open Go.RowKit
set_option linter.unusedVariables false
set_option linter.unusedSimpArgs false

theorem killfront_none_cl (rb N : Nat) (l : List Int) (k : Nat) (kept : List Int) (w : World) (h : RB w rb l k kept) (hN : Cap w rb N) (hk0 : k = 0) (hl : l.length ≤ 100000) :
    Calls Tryd.prog 80 #[.pointer (some ⟨N, 0, none⟩)] w fun e w' => e = .returned (.tuple #[]) ∧ (RB w' rb l k kept ∧ Own rb w w') := by
  obtain ⟨A, cap, B, cap2, hv⟩ := h
  have HV := Go.Lib.hid hv
  have HN := Go.Lib.hid hN
  have hle := hv.r0.le
  obtain ⟨c0, c1, -, -, -, -, f, sz, -⟩ := hv
  obtain ⟨cN, ltN, neN, -⟩ := hN
  have f1 := f 1
  have f0 := f 0
  clear f
  subst hk0
  have c1' : w.cell? ⟨rb, 1, none⟩ = some (.int .i64 0) := c1
  clear c1
  go_enter Tryd.func80, Tryd.ntmps80
  go_wp2_with fail
  go_returns
  exact ⟨rfl, ⟨_, _, _, _, HV.out⟩, Own.refl _ _⟩

theorem killfront_none_any (rb : Nat) (l : List Int) (k : Nat) (kept : List Int) (w : World) (h : RB w rb l k kept) (hk : k ≤ l.length) (h0 : k = 0) (hl : l.length ≤ 100000) :
    Calls Tryd.prog 69 #[.pointer (some ⟨rb, 0, none⟩)] w fun e w' => e = .returned (.tuple #[]) ∧ (RB w' rb l k kept ∧ Own rb w w') := by
  have eg : ∀ args w, (callFunc 80 args).run Tryd.prog w = .ok (.enter 80 args) w := fun _ _ => by kernel_rfl
  have hmf : ∀ (fn : Fn) (first cap : Array Value) (w : World), (Instr.makeFunc fn first cap).run Tryd.prog w = .ok (.func fn first cap) w := fun _ _ _ _ => rfl
  have hsz : rb < w.heap.size := by obtain ⟨_, _, _, _, h⟩ := h; exact h.sz
  have HR := Go.Lib.hid (refresh rb 80 #[.pointer (some ⟨w.heap.size, 0, none⟩)] (w.alloc (.cells #[.pointer (some ⟨rb, 0, none⟩)] 46)) _ eg
    (killfront_none_cl rb w.heap.size l k kept _ (h.below ((Below.refl _ _).alloc (Nat.le_refl _) _)) (cap_new w rb _ (by decide) hsz) h0 hl))
  clear h eg
  go_enter Tryd.func69, Tryd.ntmps69
  go_wp2_with fail
  refine HR.out.mono ?_
  rintro e w1 ⟨rfl, h1, o1⟩
  have H1 := Go.Lib.hid h1
  clear h1
  go_wp2_with fail
  go_returns
  exact ⟨rfl, H1.out, ((Own.refl _ _).alloc _).trans o1⟩

theorem key_killfront_none (l : List Int) (k : Nat) (kept : List Int) (hk : k ≤ l.length) (hl : l.length ≤ 100000) (h0 : k = 0) (s : ByteArray) (n : Int) (f b : Bool) : KeyOk ⟨16, s, n, f, b⟩ l k kept (-1) l k kept := fun rb w h => by
  have H : Hid (RB (w.alloc (.cells #[.int .i64 16, .string s, .int .i64 n, .bool f, .bool b] 30)) rb l k kept) := h.below ((Below.refl _ _).alloc (Nat.le_refl _) _)
  have HW : Hid (∀ W, RB W rb l k kept → Calls Tryd.prog 46 #[.pointer (some ⟨rb, 0, none⟩), .int .i64 16] W fun e w' => e = .returned (.tuple #[.int .i64 (-1), .bool true]) ∧ RB w' rb l k kept ∧ Own rb W w') := fun W h => by
    have H := Go.Lib.hid h
    clear h
    go_enter Tryd.func46, Tryd.ntmps46
    go_wp2_with fail
    refine (killfront_none_any rb l k kept _ H.out hk h0 hl).mono ?_
    rintro e w1 ⟨rfl, h1, o1⟩
    have H1 := Go.Lib.hid h1
    clear h1
    go_wp2_with fail
    go_returns
    exact ⟨rfl, H1.out, o1⟩
  clear h
  unfold Ky.val
  go_enter Tryd.func23, Tryd.ntmps23
  go_wp2_with fail
  refine (HW.out _ H.out).mono ?_
  rintro e w1 ⟨rfl, h1, o1⟩
  have H1 := Go.Lib.hid h1
  clear h1
  go_wp2_with fail
  go_returns
  exact ⟨rfl, H1.out, ((Own.refl _ _).alloc _).trans o1⟩

theorem cutword_none_any (rb : Nat) (l : List Int) (k : Nat) (kept : List Int) (w : World) (h : RB w rb l k kept) (h0 : k = l.length) (hl : l.length ≤ 100000) :
    Calls Tryd.prog 66 #[.pointer (some ⟨rb, 0, none⟩)] w fun e w' => e = .returned (.tuple #[]) ∧ (RB w' rb l k kept ∧ Own rb w w') := by
  have H1 : Hid (RB (w.alloc (.cells #[.pointer (some ⟨rb, 0, none⟩)] 46)) rb l k kept) := h.below ((Below.refl _ _).alloc (Nat.le_refl _) _)
  obtain ⟨A, cap, B, cap2, hv⟩ := H1.out
  have c0 := hv.c0
  have c1 := hv.c1
  have e0 : ((k : Int) == (l.length : Int)) = true := by simp; omega
  clear hv h h0
  go_enter Tryd.func66, Tryd.ntmps66
  go_wp2_with fail
  go_quiet (fail)
  go_wp2_with fail
  go_returns
  exact ⟨rfl, H1.out.below (below_drewN (Below.refl _ _) _), ((Own.refl _ _).alloc _).drewN _⟩

theorem key_cutword_none (l : List Int) (k : Nat) (kept : List Int) (hk : k ≤ l.length) (hl : l.length ≤ 100000) (h0 : k = l.length) (s : ByteArray) (n : Int) (f b : Bool) : KeyOk ⟨13, s, n, f, b⟩ l k kept (-1) l k kept := fun rb w h => by
  have H : Hid (RB (w.alloc (.cells #[.int .i64 13, .string s, .int .i64 n, .bool f, .bool b] 30)) rb l k kept) := h.below ((Below.refl _ _).alloc (Nat.le_refl _) _)
  have HW : Hid (∀ W, RB W rb l k kept → Calls Tryd.prog 46 #[.pointer (some ⟨rb, 0, none⟩), .int .i64 13] W fun e w' => e = .returned (.tuple #[.int .i64 (-1), .bool true]) ∧ RB w' rb l k kept ∧ Own rb W w') := fun W h => by
    have H := Go.Lib.hid h
    clear h
    go_enter Tryd.func46, Tryd.ntmps46
    go_wp2_with fail
    refine (cutword_none_any rb l k kept _ H.out h0 hl).mono ?_
    rintro e w1 ⟨rfl, h1, o1⟩
    have H1 := Go.Lib.hid h1
    clear h1
    go_wp2_with fail
    go_returns
    exact ⟨rfl, H1.out, o1⟩
  clear h
  unfold Ky.val
  go_enter Tryd.func23, Tryd.ntmps23
  go_wp2_with fail
  refine (HW.out _ H.out).mono ?_
  rintro e w1 ⟨rfl, h1, o1⟩
  have H1 := Go.Lib.hid h1
  clear h1
  go_wp2_with fail
  go_returns
  exact ⟨rfl, H1.out, ((Own.refl _ _).alloc _).trans o1⟩
end Go.Proofs.YtoimdbmjpkmkfaaDoor
