/- The methods of a rune buffer (printed by wip/gen/mkrbmethods.py). -/
import Derived.Test.YtoimdbmjpkmkfaaDoorRbYank
namespace Go.Proofs.YtoimdbmjpkmkfaaDoor
open Go.RowKit
set_option linter.unusedVariables false
set_option linter.unusedSimpArgs false

theorem backward_any (rb : Nat) (l : List Int) (k : Nat) (kept : List Int) (w : World) (h : RB w rb l k kept) (hk : k ≤ l.length) (hl : l.length ≤ 100000) :
    Calls Tryd.prog 35 #[.pointer (some ⟨rb, 0, none⟩)] w fun e w' => e = .returned (.tuple #[]) ∧ (RB w' rb l (k - 1) kept ∧ Own rb w w') := by
  have eg : ∀ args w, (callFunc 52 args).run Tryd.prog w = .ok (.enter 52 args) w := fun _ _ => by kernel_rfl
  have hmf : ∀ (fn : Fn) (first cap : Array Value) (w : World), (Instr.makeFunc fn first cap).run Tryd.prog w = .ok (.func fn first cap) w := fun _ _ _ _ => rfl
  have hsz : rb < w.heap.size := by obtain ⟨_, _, _, _, h⟩ := h; exact h.sz
  have HR := Go.Lib.hid (refresh rb 52 #[.pointer (some ⟨w.heap.size, 0, none⟩)] (w.alloc (.cells #[.pointer (some ⟨rb, 0, none⟩)] 46)) _ eg
    (backward_cl rb w.heap.size l k kept _ (h.below ((Below.refl _ _).alloc (Nat.le_refl _) _)) (cap_new w rb _ (by decide) hsz) hk hl))
  clear h eg
  go_enter Tryd.func35, Tryd.ntmps35
  go_wp2_with fail
  refine HR.out.mono ?_
  rintro e w1 ⟨rfl, h1, o1⟩
  have H1 := Go.Lib.hid h1
  clear h1
  go_wp2_with fail
  go_returns
  exact ⟨rfl, H1.out, ((Own.refl _ _).alloc _).trans o1⟩

theorem backspace_any (rb : Nat) (l : List Int) (k : Nat) (kept : List Int) (w : World) (h : RB w rb l k kept) (hk : k ≤ l.length) (hk0 : 0 < k) (hl : l.length ≤ 100000) :
    Calls Tryd.prog 40 #[.pointer (some ⟨rb, 0, none⟩)] w fun e w' => e = .returned (.tuple #[]) ∧ (RB w' rb (cutAt l (k - 1)) (k - 1) kept ∧ Own rb w w') := by
  have eg : ∀ args w, (callFunc 57 args).run Tryd.prog w = .ok (.enter 57 args) w := fun _ _ => by kernel_rfl
  have hmf : ∀ (fn : Fn) (first cap : Array Value) (w : World), (Instr.makeFunc fn first cap).run Tryd.prog w = .ok (.func fn first cap) w := fun _ _ _ _ => rfl
  have hsz : rb < w.heap.size := by obtain ⟨_, _, _, _, h⟩ := h; exact h.sz
  have HR := Go.Lib.hid (refresh rb 57 #[.pointer (some ⟨w.heap.size, 0, none⟩)] (w.alloc (.cells #[.pointer (some ⟨rb, 0, none⟩)] 46)) _ eg
    (backspace_cl rb w.heap.size l k kept _ (h.below ((Below.refl _ _).alloc (Nat.le_refl _) _)) (cap_new w rb _ (by decide) hsz) hk hk0 hl))
  clear h eg
  go_enter Tryd.func40, Tryd.ntmps40
  go_wp2_with fail
  refine HR.out.mono ?_
  rintro e w1 ⟨rfl, h1, o1⟩
  have H1 := Go.Lib.hid h1
  clear h1
  go_wp2_with fail
  go_returns
  exact ⟨rfl, H1.out, ((Own.refl _ _).alloc _).trans o1⟩

theorem kill_any (rb : Nat) (l : List Int) (k : Nat) (kept : List Int) (w : World) (h : RB w rb l k kept) (hk : k ≤ l.length) (hl : l.length ≤ 100000) :
    Calls Tryd.prog 68 #[.pointer (some ⟨rb, 0, none⟩)] w fun e w' => e = .returned (.tuple #[]) ∧ (RB w' rb (l.take k) k (l.drop k) ∧ Own rb w w') := by
  have eg : ∀ args w, (callFunc 79 args).run Tryd.prog w = .ok (.enter 79 args) w := fun _ _ => by kernel_rfl
  have hmf : ∀ (fn : Fn) (first cap : Array Value) (w : World), (Instr.makeFunc fn first cap).run Tryd.prog w = .ok (.func fn first cap) w := fun _ _ _ _ => rfl
  have hsz : rb < w.heap.size := by obtain ⟨_, _, _, _, h⟩ := h; exact h.sz
  have HR := Go.Lib.hid (refresh rb 79 #[.pointer (some ⟨w.heap.size, 0, none⟩)] (w.alloc (.cells #[.pointer (some ⟨rb, 0, none⟩)] 46)) _ eg
    (kill_cl rb w.heap.size l k kept _ (h.below ((Below.refl _ _).alloc (Nat.le_refl _) _)) (cap_new w rb _ (by decide) hsz) hk hl))
  clear h eg
  go_enter Tryd.func68, Tryd.ntmps68
  go_wp2_with fail
  refine HR.out.mono ?_
  rintro e w1 ⟨rfl, h1, o1⟩
  have H1 := Go.Lib.hid h1
  clear h1
  go_wp2_with fail
  go_returns
  exact ⟨rfl, H1.out, ((Own.refl _ _).alloc _).trans o1⟩

theorem yank_any (rb : Nat) (l : List Int) (k : Nat) (kept : List Int) (w : World) (h : RB w rb l k kept) (hk : k ≤ l.length) (hkl : kept.length ≤ 100000) (hk0 : 0 < kept.length) (hl : l.length ≤ 100000) :
    Calls Tryd.prog 70 #[.pointer (some ⟨rb, 0, none⟩)] w fun e w' => e = .returned (.tuple #[]) ∧ (RB w' rb (l.take k ++ kept ++ l.drop k) (k + kept.length) kept ∧ Own rb w w') := by
  have eg : ∀ args w, (callFunc 81 args).run Tryd.prog w = .ok (.enter 81 args) w := fun _ _ => by kernel_rfl
  have hmf : ∀ (fn : Fn) (first cap : Array Value) (w : World), (Instr.makeFunc fn first cap).run Tryd.prog w = .ok (.func fn first cap) w := fun _ _ _ _ => rfl
  have hsz : rb < w.heap.size := by obtain ⟨_, _, _, _, h⟩ := h; exact h.sz
  have HR := Go.Lib.hid (refresh rb 81 #[.pointer (some ⟨w.heap.size, 0, none⟩)] (w.alloc (.cells #[.pointer (some ⟨rb, 0, none⟩)] 46)) _ eg
    (yank_cl rb w.heap.size l k kept _ (h.below ((Below.refl _ _).alloc (Nat.le_refl _) _)) (cap_new w rb _ (by decide) hsz) hk hl hkl))
  obtain ⟨A, cap, B, cap2, hv⟩ := h.below ((Below.refl w.heap.size w).alloc (Nat.le_refl _) (.cells #[.pointer (some ⟨rb, 0, none⟩)] 46))
  have c10 := hv.c10
  have e0 : ((kept.length : Int) == 0) = false := by simp; intro e; rw [e] at hk0; simp at hk0
  clear hv hk0
  clear h eg
  go_enter Tryd.func70, Tryd.ntmps70
  go_wp2_with fail
  refine HR.out.mono ?_
  rintro e w1 ⟨rfl, h1, o1⟩
  have H1 := Go.Lib.hid h1
  clear h1
  go_wp2_with fail
  go_returns
  exact ⟨rfl, H1.out, ((Own.refl _ _).alloc _).trans o1⟩

theorem delete_any (rb : Nat) (l : List Int) (k : Nat) (kept : List Int) (w : World) (h : RB w rb l k kept) (hk : k < l.length) (hl : l.length ≤ 100000) :
    Calls Tryd.prog 39 #[.pointer (some ⟨rb, 0, none⟩)] w fun e w' => e = .returned (.bool true) ∧ (RB w' rb (cutAt l k) k ((l.take (k + 1)).drop k) ∧ Own rb w w') := by
  have eg : ∀ args w, (callFunc 55 args).run Tryd.prog w = .ok (.enter 55 args) w := fun _ _ => by kernel_rfl
  have hmf : ∀ (fn : Fn) (first cap : Array Value) (w : World), (Instr.makeFunc fn first cap).run Tryd.prog w = .ok (.func fn first cap) w := fun _ _ _ _ => rfl
  have hsz : rb < w.heap.size := by obtain ⟨_, _, _, _, h⟩ := h; exact h.sz
  have b1 : Below w.heap.size w (w.alloc (.cells #[.pointer (some ⟨rb, 0, none⟩)] 46)) := (Below.refl _ _).alloc (Nat.le_refl _) _
  have v1 := var_new (w.alloc (.cells #[.pointer (some ⟨rb, 0, none⟩)] 46)) rb (.bool false) 4 (by decide) (by simp; omega)
  rw [show (w.alloc (.cells #[.pointer (some ⟨rb, 0, none⟩)] 46)).heap.size = w.heap.size + 1 by simp] at v1
  have n1 := (cap_new w rb 46 (by decide) hsz).own ((Own.refl rb (w.alloc (.cells #[.pointer (some ⟨rb, 0, none⟩)] 46))).alloc (.cells #[.bool false] 4))
  have f1 : ((w.alloc (.cells #[.pointer (some ⟨rb, 0, none⟩)] 46)).alloc (.cells #[.bool false] 4)).frozen? ⟨w.heap.size + 1, 0, none⟩ = false := by simp [go_sem]
  have HR := Go.Lib.hid (refresh rb 55 #[.pointer (some ⟨w.heap.size, 0, none⟩), .pointer (some ⟨w.heap.size + 1, 0, none⟩)] ((w.alloc (.cells #[.pointer (some ⟨rb, 0, none⟩)] 46)).alloc (.cells #[.bool false] 4)) _ eg
    (delete_cl rb w.heap.size (w.heap.size + 1) l k kept _ (h.below (b1.alloc (by simp) _)) n1 ⟨v1.c, f1, v1.lt, v1.ne, v1.ni⟩ hk hl))
  clear h eg v1 n1 b1 f1
  go_enter Tryd.func39, Tryd.ntmps39
  go_wp2_with fail
  refine HR.out.mono ?_
  rintro e w1 ⟨rfl, w2, ⟨h1, o1⟩, hM, hni, rfl⟩
  have H1 := Go.Lib.hid h1
  have HN := Go.Lib.hid hni
  have O1 := Go.Lib.hid (((Own.refl rb w).alloc _).alloc _ |>.trans o1)
  have hM2 : (w2.setCell ⟨w.heap.size + 1, 0, none⟩ (.bool true)).cell? ⟨w.heap.size + 1, 0, none⟩ = some (.bool true) := World.cell?_setCell_same' _ _ _ (by rw [hM]; rfl)
  clear h1 o1 hM hni
  generalize hw3 : w2.setCell ⟨w.heap.size + 1, 0, none⟩ (.bool true) = w3 at hM2 ⊢
  have HW := Go.Lib.hid hw3
  clear hw3
  go_wp2_with fail
  refine bodyPost_ret (v := .bool true) (by simp [results, Tryd.results39, go_sem, hM2]) rfl ⟨rfl, ?_, ?_⟩
  · rw [← HW.out]
    refine H1.out.same (by simp [World.setCell]) fun k hk h2 => Below.heap_setCell _ _ _ _ ?_
    rintro rfl
    rcases h2 with h2 | h2
    · simp at h2; omega
    · exact HN.out h2.2
  · rw [← HW.out]
    have o := O1.out
    refine ⟨o.os, o.tape, o.output, by simpa [World.setCell] using o.size, fun k hk h1 h2 => ?_⟩
    rw [Below.heap_setCell _ _ _ _ (by show k ≠ w.heap.size + 1; omega)]
    exact o.rest k hk h1 h2

theorem row_runes (w : World) (base : Nat) (s : ByteArray) (hs : s.size ≤ 100000) (hb : base ≤ w.heap.size) :
    ∃ cap W, (convert 9 38 (.string s)).run Tryd.prog w = .ok (.slice (some ⟨w.heap.size, 0, none⟩) (runes s).length cap) W ∧ Row W base (some ⟨w.heap.size, 0, none⟩) cap (runes s) ∧ Below w.heap.size w W := by
  have hcv := run_runes (P := Tryd.prog) w 9 38 21 s Tryd.underlying9 Tryd.underlying38 Tryd.underlying21 (by omega)
  have hlen := runes_length s
  have hge := runeCap_ge w 21 s
  have hmax : runeCap w 21 s ≤ maxLen := grownCap_le_maxLen w _ _ _ (by unfold maxLen; omega)
  refine ⟨_, _, hcv, ⟨by simp [i32s], .inr ⟨w.heap.size, _, runeCells s (runeCap w 21 s), rfl, hb, ?_, hge, hmax, ?_, ?_⟩⟩, ((Below.refl _ _).drew).alloc (Nat.le_refl _) _⟩
  · exact heap_alloc_new w.drew _
  · simp [runeCells]; omega
  · simp [runeCells, i32s]

theorem write_runes (rb : Nat) (l : List Int) (k : Nat) (kept xs : List Int) (S : Option Addr) (capS : Nat) (w : World) (A : Option Addr) (cap : Nat) (B : Option Addr) (cap2 : Nat) (hv : RBv w rb l k kept A cap B cap2)
    (hS : Row w (rb + 1) S capS xs) (hap : ∀ g, blk S = some g → blk A ≠ some g ∧ blk B ≠ some g) (hk : k ≤ l.length) (hl : l.length ≤ 100000) (hx : xs.length ≤ 100000) :
    Calls Tryd.prog 49 #[.pointer (some ⟨rb, 0, none⟩), .slice S xs.length capS] w fun e w' => e = .returned (.tuple #[]) ∧ (RB w' rb (l.take k ++ (xs ++ l.drop k)) (k + xs.length) kept ∧ Own rb w w') := by
  have eg : ∀ args w, (callFunc 72 args).run Tryd.prog w = .ok (.enter 72 args) w := fun _ _ => by kernel_rfl
  have hmf : ∀ (fn : Fn) (first cap : Array Value) (w : World), (Instr.makeFunc fn first cap).run Tryd.prog w = .ok (.func fn first cap) w := fun _ _ _ _ => rfl
  have hsz := hv.sz
  have b1 : Below w.heap.size w (w.alloc (.cells #[.pointer (some ⟨rb, 0, none⟩)] 46)) := (Below.refl _ _).alloc (Nat.le_refl _) _
  have b2 : Below w.heap.size w ((w.alloc (.cells #[.pointer (some ⟨rb, 0, none⟩)] 46)).alloc (.cells #[.slice S xs.length capS] 38)) := b1.alloc (by simp) _
  have v1 := var_new (w.alloc (.cells #[.pointer (some ⟨rb, 0, none⟩)] 46)) rb (.slice S xs.length capS) 38 (by decide) (by simp; omega)
  have n1 := (cap_new w rb 46 (by decide) hsz).own ((Own.refl rb (w.alloc (.cells #[.pointer (some ⟨rb, 0, none⟩)] 46))).alloc (.cells #[.slice S xs.length capS] 38))
  have s1 : Row ((w.alloc (.cells #[.pointer (some ⟨rb, 0, none⟩)] 46)).alloc (.cells #[.slice S xs.length capS] 38)) (rb + 1) S capS xs := hS.kept fun k _ h2 _ _ => b2.block k h2
  rw [show (w.alloc (.cells #[.pointer (some ⟨rb, 0, none⟩)] 46)).heap.size = w.heap.size + 1 by simp] at v1
  have HR := Go.Lib.hid (refresh rb 72 #[.pointer (some ⟨w.heap.size + 1, 0, none⟩), .pointer (some ⟨w.heap.size, 0, none⟩)] ((w.alloc (.cells #[.pointer (some ⟨rb, 0, none⟩)] 46)).alloc (.cells #[.slice S xs.length capS] 38)) _ eg
    (write_cl rb w.heap.size (w.heap.size + 1) l k kept xs S capS _ A cap B cap2 (hv.below b2) n1 v1 s1 hap hk hl hx))
  clear hv eg v1 n1 b1 b2 s1 hS hap
  go_enter Tryd.func49, Tryd.ntmps49
  go_wp2_with fail
  refine HR.out.mono ?_
  rintro e w1 ⟨rfl, h1, o1⟩
  have H1 := Go.Lib.hid h1
  clear h1
  go_wp2_with fail
  go_returns
  exact ⟨rfl, H1.out, (((Own.refl _ _).alloc _).alloc _).trans o1⟩

theorem set_any (rb : Nat) (l : List Int) (k : Nat) (kept xs : List Int) (i : Nat) (S : Option Addr) (capS : Nat) (w : World) (A : Option Addr) (cap : Nat) (B : Option Addr) (cap2 : Nat) (hv : RBv w rb l k kept A cap B cap2)
    (hS : Row w (rb + 1) S capS xs) (hap : ∀ g, blk S = some g → blk B ≠ some g) :
    Calls Tryd.prog 44 #[.pointer (some ⟨rb, 0, none⟩), .int .i64 (i : Nat), .slice S xs.length capS] w fun e w' => e = .returned (.tuple #[]) ∧ (RB w' rb xs i kept ∧ Own rb w w') := by
  have eg : ∀ args w, (callFunc 61 args).run Tryd.prog w = .ok (.enter 61 args) w := fun _ _ => by kernel_rfl
  have hmf : ∀ (fn : Fn) (first cap : Array Value) (w : World), (Instr.makeFunc fn first cap).run Tryd.prog w = .ok (.func fn first cap) w := fun _ _ _ _ => rfl
  have hsz := hv.sz
  obtain ⟨W1, hW1⟩ : ∃ W1, W1 = w.alloc (.cells #[.pointer (some ⟨rb, 0, none⟩)] 46) := ⟨_, rfl⟩
  obtain ⟨W2, hW2⟩ : ∃ W2, W2 = W1.alloc (.cells #[.int .i64 (i : Nat)] 3) := ⟨_, rfl⟩
  obtain ⟨W3, hW3⟩ : ∃ W3, W3 = W2.alloc (.cells #[.slice S xs.length capS] 38) := ⟨_, rfl⟩
  have z1 : W1.heap.size = w.heap.size + 1 := by rw [hW1]; simp
  have z2 : W2.heap.size = w.heap.size + 1 + 1 := by rw [hW2]; simp [z1]
  have b1 : Below w.heap.size w W1 := by rw [hW1]; exact (Below.refl _ _).alloc (Nat.le_refl _) _
  have b2 : Below w.heap.size w W2 := by rw [hW2]; exact b1.alloc (by omega) _
  have b3 : Below w.heap.size w W3 := by rw [hW3]; exact b2.alloc (by omega) _
  have o1 : Own rb w W1 := by rw [hW1]; exact (Own.refl _ _).alloc _
  have o2 : Own rb W1 W2 := by rw [hW2]; exact (Own.refl _ _).alloc _
  have o3 : Own rb W2 W3 := by rw [hW3]; exact (Own.refl _ _).alloc _
  have n1 := cap_new w rb 46 (by decide) hsz
  have i1 := var_new W1 rb (.int .i64 (i : Nat)) 3 (by decide) (by omega)
  have v1 := var_new W2 rb (.slice S xs.length capS) 38 (by decide) (by omega)
  rw [← hW1] at n1
  rw [← hW2, z1] at i1
  rw [← hW3, z2] at v1
  have s1 : Row W3 (rb + 1) S capS xs := hS.kept fun k _ h2 _ _ => b3.block k h2
  have HR := Go.Lib.hid (refresh rb 61 #[.pointer (some ⟨w.heap.size + 1 + 1, 0, none⟩), .pointer (some ⟨w.heap.size, 0, none⟩), .pointer (some ⟨w.heap.size + 1, 0, none⟩)] W3 _ eg
    (set_cl rb w.heap.size (w.heap.size + 1 + 1) (w.heap.size + 1) l k kept xs i S capS _ A cap B cap2 (hv.below b3) ((n1.own o2).own o3) v1 (i1.own o3) s1 hap))
  have O3 := Go.Lib.hid ((o1.trans o2).trans o3)
  rw [hW3, hW2, hW1] at HR O3
  clear hv eg v1 n1 i1 b1 b2 b3 s1 hS hap o1 o2 o3 z1 z2 hW1 hW2 hW3 W1 W2 W3
  go_enter Tryd.func44, Tryd.ntmps44
  go_wp2_with fail
  refine HR.out.mono ?_
  rintro e w1 ⟨rfl, h1, o1⟩
  have H1 := Go.Lib.hid h1
  clear h1
  go_wp2_with fail
  go_returns
  exact ⟨rfl, H1.out, O3.out.trans o1⟩

theorem write_string (rb : Nat) (l : List Int) (k : Nat) (kept : List Int) (s : ByteArray) (w : World) (h : RB w rb l k kept) (hk : k ≤ l.length) (hl : l.length ≤ 100000) (hs : s.size ≤ 100000) :
    Calls Tryd.prog 33 #[.pointer (some ⟨rb, 0, none⟩), .string s] w fun e w' => e = .returned (.tuple #[]) ∧ (RB w' rb (l.take k ++ (runes s ++ l.drop k)) (k + (runes s).length) kept ∧ Own rb w w') := by
  obtain ⟨A, cap, B, cap2, hv⟩ := h
  obtain ⟨cap3, W, hcv, hrow, hb⟩ := row_runes w (rb + 1) s hs (by have := hv.sz; omega)
  have HV : Hid (RBv W rb l k kept A cap B cap2) := hv.below hb
  have O1 : Hid (Own rb w W) := .of hb
  have HR := Go.Lib.hid hrow
  have HAP : Hid (∀ g, blk (some ⟨w.heap.size, 0, none⟩) = some g → blk A ≠ some g ∧ blk B ≠ some g) := fun g hg => by
    have e : w.heap.size = g := by simpa [blk] using hg
    exact ⟨fun e' => by have := (hv.r0.blk_lt e').2.1; omega, fun e' => by have := (hv.r10.blk_lt e').2.1; omega⟩
  have HL : Hid ((runes s).length ≤ 100000) := Nat.le_trans (runes_length s) hs
  clear hv hrow hb
  go_enter Tryd.func33, Tryd.ntmps33
  go_wp2_with fail
  refine (write_runes rb l k kept (runes s) _ cap3 W A cap B cap2 HV.out HR.out HAP.out hk hl HL.out).mono ?_
  rintro e w1 ⟨rfl, h1, o1⟩
  have H1 := Go.Lib.hid h1
  clear h1
  go_wp2_with fail
  go_returns
  exact ⟨rfl, H1.out, O1.out.trans o1⟩
end Go.Proofs.YtoimdbmjpkmkfaaDoor
