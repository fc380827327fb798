/- impl.keyed at prevword (printed by wip/gen/mkkeyprev2.py). -/
import Derived.Test.YtoimdbmjpkmkfaaDoorKeyPrev
namespace Go.Proofs.YtoimdbmjpkmkfaaDoor
open Go.RowKit
set_option linter.unusedVariables false
set_option linter.unusedSimpArgs false

theorem prev_none_cl (rb N M : Nat) (l : List Int) (k : Nat) (kept : List Int) (w : World) (h : RB w rb l k kept) (hN : Cap w rb N) (hM : w.cell? ⟨M, 0, none⟩ = some (.bool false)) (hk : k = 0) (hl : l.length ≤ 100000) :
    Calls Tryd.prog 73 #[.pointer (some ⟨N, 0, none⟩), .pointer (some ⟨M, 0, none⟩)] w fun e w' => e = .returned (.tuple #[]) ∧ (RB w' rb l k kept ∧ Own rb w w' ∧ w'.cell? ⟨M, 0, none⟩ = some (.bool false)) := by
  obtain ⟨A, cap, B, cap2, hv⟩ := h
  have HV := Go.Lib.hid hv
  have HM := Go.Lib.hid hM
  obtain ⟨c0, c1, -, -, -, -, -, sz, -⟩ := hv
  obtain ⟨cN, ltN, neN, -⟩ := hN
  subst hk
  have c1' : w.cell? ⟨rb, 1, none⟩ = some (.int .i64 0) := c1
  clear c1
  have lM : M < w.heap.size := World.block_lt_of_cell? (a := ⟨M, 0, none⟩) _ hM
  clear hM
  go_enter Tryd.func73, Tryd.ntmps73
  go_wp2_with fail
  go_returns
  exact ⟨rfl, ⟨_, _, _, _, HV.out⟩, Own.refl _ _, HM.out⟩

theorem prev_none_any (rb : Nat) (l : List Int) (k : Nat) (kept : List Int) (w : World) (h : RB w rb l k kept) (hk : k = 0) (hl : l.length ≤ 100000) :
    Calls Tryd.prog 63 #[.pointer (some ⟨rb, 0, none⟩)] w fun e w' => e = .returned (.bool false) ∧ (RB w' rb l k kept ∧ Own rb w w') := by
  have eg : ∀ args w, (callFunc 73 args).run Tryd.prog w = .ok (.enter 73 args) w := fun _ _ => by kernel_rfl
  have hmf : ∀ (fn : Fn) (first cap : Array Value) (w : World), (Instr.makeFunc fn first cap).run Tryd.prog w = .ok (.func fn first cap) w := fun _ _ _ _ => rfl
  have hsz : rb < w.heap.size := by obtain ⟨_, _, _, _, h⟩ := h; exact h.sz
  have b1 : Below w.heap.size w (w.alloc (.cells #[.pointer (some ⟨rb, 0, none⟩)] 46)) := (Below.refl _ _).alloc (Nat.le_refl _) _
  have n1 := (cap_new w rb 46 (by decide) hsz).own ((Own.refl rb (w.alloc (.cells #[.pointer (some ⟨rb, 0, none⟩)] 46))).alloc (.cells #[.bool false] 4))
  have HR := Go.Lib.hid (refresh rb 73 #[.pointer (some ⟨w.heap.size, 0, none⟩), .pointer (some ⟨w.heap.size + 1, 0, none⟩)] ((w.alloc (.cells #[.pointer (some ⟨rb, 0, none⟩)] 46)).alloc (.cells #[.bool false] 4)) _ eg
    (prev_none_cl rb w.heap.size (w.heap.size + 1) l k kept _ (h.below (b1.alloc (by simp) _)) n1 (by simp [go_sem]) hk hl))
  clear h eg n1 b1
  go_enter Tryd.func63, Tryd.ntmps63
  go_wp2_with fail
  refine HR.out.mono ?_
  rintro e w1 ⟨rfl, h1, o1, hM⟩
  have H1 := Go.Lib.hid h1
  have O1 := Go.Lib.hid (((Own.refl rb w).alloc _).alloc _ |>.trans o1)
  clear h1 o1
  go_wp2_with fail
  exact bodyPost_ret (v := .bool false) (by simp [results, Tryd.results63, go_sem, hM]) rfl ⟨rfl, H1.out, O1.out⟩


theorem key_prevword (l : List Int) (k : Nat) (kept : List Int) (hk : k ≤ l.length) (hl : l.length ≤ 100000) (h0 : 0 < k) (s : ByteArray) (n : Int) (f b : Bool) : KeyOk ⟨10, s, n, f, b⟩ l k kept 1 l (befW l k).toNat kept := fun rb w h => by
  have H : Hid (RB (w.alloc (.cells #[.int .i64 10, .string s, .int .i64 n, .bool f, .bool b] 30)) rb l k kept) := h.below ((Below.refl _ _).alloc (Nat.le_refl _) _)
  have HW : Hid (∀ W, RB W rb l k kept → Calls Tryd.prog 46 #[.pointer (some ⟨rb, 0, none⟩), .int .i64 10] W fun e w' => e = .returned (.tuple #[.int .i64 1, .bool true]) ∧ RB w' rb l (befW l k).toNat kept ∧ Own rb W w') := fun W h => by
    have H := Go.Lib.hid h
    clear h
    go_enter Tryd.func46, Tryd.ntmps46
    go_wp2_with fail
    refine (prev_any rb l k kept _ H.out hk h0 hl).mono ?_
    rintro e w1 ⟨rfl, h1, o1⟩
    have H1 := Go.Lib.hid h1
    clear h1
    go_wp2_with fail
    refine (told_true _).mono ?_
    rintro e w2 ⟨rfl, rfl⟩
    go_wp2_with fail
    go_returns
    exact ⟨rfl, H1.out, o1⟩
  clear h
  unfold Ky.val
  go_enter Tryd.func23, Tryd.ntmps23
  go_wp2_with fail
  refine (HW.out _ H.out).mono ?_
  rintro e w1 ⟨rfl, h1, o1⟩
  have H1 := Go.Lib.hid h1
  clear h1
  go_wp2_with fail
  go_returns
  exact ⟨rfl, H1.out, ((Own.refl _ _).alloc _).trans o1⟩

theorem key_prevword_none (l : List Int) (k : Nat) (kept : List Int) (hk : k ≤ l.length) (hl : l.length ≤ 100000) (h0 : k = 0) (s : ByteArray) (n : Int) (f b : Bool) : KeyOk ⟨10, s, n, f, b⟩ l k kept 0 l k kept := fun rb w h => by
  have H : Hid (RB (w.alloc (.cells #[.int .i64 10, .string s, .int .i64 n, .bool f, .bool b] 30)) rb l k kept) := h.below ((Below.refl _ _).alloc (Nat.le_refl _) _)
  have HW : Hid (∀ W, RB W rb l k kept → Calls Tryd.prog 46 #[.pointer (some ⟨rb, 0, none⟩), .int .i64 10] W fun e w' => e = .returned (.tuple #[.int .i64 0, .bool true]) ∧ RB w' rb l k kept ∧ Own rb W w') := fun W h => by
    have H := Go.Lib.hid h
    clear h
    go_enter Tryd.func46, Tryd.ntmps46
    go_wp2_with fail
    refine (prev_none_any rb l k kept _ H.out h0 hl).mono ?_
    rintro e w1 ⟨rfl, h1, o1⟩
    have H1 := Go.Lib.hid h1
    clear h1
    go_wp2_with fail
    refine (told_false _).mono ?_
    rintro e w2 ⟨rfl, rfl⟩
    go_wp2_with fail
    go_returns
    exact ⟨rfl, H1.out, o1⟩
  clear h
  unfold Ky.val
  go_enter Tryd.func23, Tryd.ntmps23
  go_wp2_with fail
  refine (HW.out _ H.out).mono ?_
  rintro e w1 ⟨rfl, h1, o1⟩
  have H1 := Go.Lib.hid h1
  clear h1
  go_wp2_with fail
  go_returns
  exact ⟨rfl, H1.out, ((Own.refl _ _).alloc _).trans o1⟩
end Go.Proofs.YtoimdbmjpkmkfaaDoor
