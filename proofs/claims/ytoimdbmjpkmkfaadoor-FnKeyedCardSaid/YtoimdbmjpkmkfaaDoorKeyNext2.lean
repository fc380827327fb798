/- impl.keyed at nextword, at a delete at the end (printed by wip/gen/mkkeynext.py). -/
import Derived.Test.YtoimdbmjpkmkfaaDoorKeyNext
namespace Go.Proofs.YtoimdbmjpkmkfaaDoor
open Go.RowKit
set_option linter.unusedVariables false
set_option linter.unusedSimpArgs false

theorem next_any (rb : Nat) (l : List Int) (k : Nat) (kept : List Int) (w : World) (h : RB w rb l k kept) (hk : k ≤ l.length) (hl : l.length ≤ 100000) :
    Calls Tryd.prog 64 #[.pointer (some ⟨rb, 0, none⟩)] w fun e w' => e = .returned (.tuple #[]) ∧ (RB w' rb l (nextK l k) kept ∧ Own rb w w') := by
  have eg : ∀ args w, (callFunc 75 args).run Tryd.prog w = .ok (.enter 75 args) w := fun _ _ => by kernel_rfl
  have hmf : ∀ (fn : Fn) (first cap : Array Value) (w : World), (Instr.makeFunc fn first cap).run Tryd.prog w = .ok (.func fn first cap) w := fun _ _ _ _ => rfl
  have hsz : rb < w.heap.size := by obtain ⟨_, _, _, _, h⟩ := h; exact h.sz
  have HR := Go.Lib.hid (refresh rb 75 #[.pointer (some ⟨w.heap.size, 0, none⟩)] (w.alloc (.cells #[.pointer (some ⟨rb, 0, none⟩)] 46)) _ eg
    (next_cl rb w.heap.size l k kept _ (h.below ((Below.refl _ _).alloc (Nat.le_refl _) _)) (cap_new w rb _ (by decide) hsz) hk hl))
  clear h eg
  go_enter Tryd.func64, Tryd.ntmps64
  go_wp2_with fail
  refine HR.out.mono ?_
  rintro e w1 ⟨rfl, h1, o1⟩
  have H1 := Go.Lib.hid h1
  clear h1
  go_wp2_with fail
  go_returns
  exact ⟨rfl, H1.out, ((Own.refl _ _).alloc _).trans o1⟩

theorem key_nextword (l : List Int) (k : Nat) (kept : List Int) (hk : k ≤ l.length) (hl : l.length ≤ 100000) (s : ByteArray) (n : Int) (f b : Bool) : KeyOk ⟨11, s, n, f, b⟩ l k kept (-1) l (nextK l k) kept := fun rb w h => by
  have H : Hid (RB (w.alloc (.cells #[.int .i64 11, .string s, .int .i64 n, .bool f, .bool b] 30)) rb l k kept) := h.below ((Below.refl _ _).alloc (Nat.le_refl _) _)
  have HW : Hid (∀ W, RB W rb l k kept → Calls Tryd.prog 46 #[.pointer (some ⟨rb, 0, none⟩), .int .i64 11] W fun e w' => e = .returned (.tuple #[.int .i64 (-1), .bool true]) ∧ RB w' rb l (nextK l k) kept ∧ Own rb W w') := fun W h => by
    have H := Go.Lib.hid h
    clear h
    go_enter Tryd.func46, Tryd.ntmps46
    go_wp2_with fail
    refine (next_any rb l k kept _ H.out hk hl).mono ?_
    rintro e w1 ⟨rfl, h1, o1⟩
    have H1 := Go.Lib.hid h1
    clear h1
    go_wp2_with fail
    go_returns
    exact ⟨rfl, H1.out, o1⟩
  clear h
  unfold Ky.val
  go_enter Tryd.func23, Tryd.ntmps23
  go_wp2_with fail
  refine (HW.out _ H.out).mono ?_
  rintro e w1 ⟨rfl, h1, o1⟩
  have H1 := Go.Lib.hid h1
  clear h1
  go_wp2_with fail
  go_returns
  exact ⟨rfl, H1.out, ((Own.refl _ _).alloc _).trans o1⟩

theorem delete_none_cl (rb N M : Nat) (l : List Int) (k : Nat) (kept : List Int) (w : World) (h : RB w rb l k kept) (hN : Cap w rb N) (hM : w.cell? ⟨M, 0, none⟩ = some (.bool false)) (hk : k = l.length) (hl : l.length ≤ 100000) :
    Calls Tryd.prog 55 #[.pointer (some ⟨N, 0, none⟩), .pointer (some ⟨M, 0, none⟩)] w fun e w' => e = .returned (.tuple #[]) ∧ (RB w' rb l k kept ∧ Own rb w w' ∧ w'.cell? ⟨M, 0, none⟩ = some (.bool false)) := by
  obtain ⟨A, cap, B, cap2, hv⟩ := h
  have HV := Go.Lib.hid hv
  have HM := Go.Lib.hid hM
  obtain ⟨c0, c1, -, -, -, -, -, sz, -⟩ := hv
  obtain ⟨cN, ltN, neN, -⟩ := hN
  have e' : ((k : Int) == (l.length : Int)) = true := by simp; omega
  have lM : M < w.heap.size := World.block_lt_of_cell? (a := ⟨M, 0, none⟩) _ hM
  clear hk hM
  go_enter Tryd.func55, Tryd.ntmps55
  go_wp2_with fail
  go_quiet (fail)
  go_wp2_with fail
  go_returns
  exact ⟨rfl, ⟨_, _, _, _, HV.out.below (below_drewN (Below.refl _ _) _)⟩, (Own.refl _ _).drewN _, ((below_drewN (Below.refl w.heap.size w) _).cell (p := ⟨M, 0, none⟩) lM).trans HM.out⟩

theorem delete_none_any (rb : Nat) (l : List Int) (k : Nat) (kept : List Int) (w : World) (h : RB w rb l k kept) (hk : k = l.length) (hl : l.length ≤ 100000) :
    Calls Tryd.prog 39 #[.pointer (some ⟨rb, 0, none⟩)] w fun e w' => e = .returned (.bool false) ∧ (RB w' rb l k kept ∧ Own rb w w') := by
  have eg : ∀ args w, (callFunc 55 args).run Tryd.prog w = .ok (.enter 55 args) w := fun _ _ => by kernel_rfl
  have hmf : ∀ (fn : Fn) (first cap : Array Value) (w : World), (Instr.makeFunc fn first cap).run Tryd.prog w = .ok (.func fn first cap) w := fun _ _ _ _ => rfl
  have hsz : rb < w.heap.size := by obtain ⟨_, _, _, _, h⟩ := h; exact h.sz
  have b1 : Below w.heap.size w (w.alloc (.cells #[.pointer (some ⟨rb, 0, none⟩)] 46)) := (Below.refl _ _).alloc (Nat.le_refl _) _
  have n1 := (cap_new w rb 46 (by decide) hsz).own ((Own.refl rb (w.alloc (.cells #[.pointer (some ⟨rb, 0, none⟩)] 46))).alloc (.cells #[.bool false] 4))
  have HR := Go.Lib.hid (refresh rb 55 #[.pointer (some ⟨w.heap.size, 0, none⟩), .pointer (some ⟨w.heap.size + 1, 0, none⟩)] ((w.alloc (.cells #[.pointer (some ⟨rb, 0, none⟩)] 46)).alloc (.cells #[.bool false] 4)) _ eg
    (delete_none_cl rb w.heap.size (w.heap.size + 1) l k kept _ (h.below (b1.alloc (by simp) _)) n1 (by simp [go_sem]) hk hl))
  clear h eg n1 b1
  go_enter Tryd.func39, Tryd.ntmps39
  go_wp2_with fail
  refine HR.out.mono ?_
  rintro e w1 ⟨rfl, h1, o1, hM⟩
  have H1 := Go.Lib.hid h1
  have O1 := Go.Lib.hid (((Own.refl rb w).alloc _).alloc _ |>.trans o1)
  clear h1 o1
  go_wp2_with fail
  exact bodyPost_ret (v := .bool false) (by simp [results, Tryd.results39, go_sem, hM]) rfl ⟨rfl, H1.out, O1.out⟩

theorem key_delete_none (l : List Int) (k : Nat) (kept : List Int) (hk : k = l.length) (hl : l.length ≤ 100000) (s : ByteArray) (n : Int) (f b : Bool) : KeyOk ⟨6, s, n, f, b⟩ l k kept 0 l k kept := fun rb w h => by
  have H : Hid (RB (w.alloc (.cells #[.int .i64 6, .string s, .int .i64 n, .bool f, .bool b] 30)) rb l k kept) := h.below ((Below.refl _ _).alloc (Nat.le_refl _) _)
  clear h
  unfold Ky.val
  go_enter Tryd.func23, Tryd.ntmps23
  go_wp2_with fail
  refine (delete_none_any rb l k kept _ H.out hk hl).mono ?_
  rintro e w1 ⟨rfl, h1, o1⟩
  have H1 := Go.Lib.hid h1
  clear h1
  go_wp2_with fail
  refine (told_false _).mono ?_
  rintro e w2 ⟨rfl, rfl⟩
  go_wp2_with fail
  go_returns
  exact ⟨rfl, H1.out, ((Own.refl _ _).alloc _).trans o1⟩
end Go.Proofs.YtoimdbmjpkmkfaaDoor
