/- SwapCharactersBeforeCursor. -/
import Derived.Test.YtedjjimabchffaaDoorBufInsert
import Derived.Test.YtedjjimabchffaaDoorQuietTail
namespace Go.Proofs.YtedjjimabchffaaDoor
open Go.RowKit
set_option linter.unusedVariables false
set_option linter.unusedSimpArgs false

/-- The two signs ahead of a place, exchanged. -/
def swapped (s : ByteArray) (k : Nat) : ByteArray := if 2 ≤ k then s.extract 0 (k - 2) ++ s.extract (k - 1) k ++ s.extract (k - 2) (k - 1) ++ s.extract k s.size else s

set_option maxRecDepth 100000 in
set_option maxHeartbeats 4000000 in
theorem swap_any (bb lb : Nat) (s : ByteArray) (k : Nat) (w : World) (h : Buf w bb lb s k) (hs : Small s) (hk : k ≤ s.size) :
    Calls Tryd.prog 40 #[.pointer (some ⟨bb, 0, none⟩)] w fun e w' => e = .returned (.tuple #[]) ∧ Buf w' bb lb (swapped s k) k ∧ Own bb lb w w' := by
  have H := Go.Lib.hid h
  have HTq : Hid (∀ n, Calls Tryd.prog 25 #[.pointer (some ⟨bb, 0, none⟩)] (w.drewN n) fun e w' => e = .returned (.string s) ∧ ∃ m, w' = (w.drewN n).drewN m) := fun n =>
    buf_text bb lb s k (w.drewN n) (H.out.like (fun _ => rfl) (fun _ => rfl) rfl)
  obtain ⟨c0, c1, c2, hc3, hc4, t, f, g, lt, sz⟩ := h
  clear hc3 hc4 f
  have hss := hs.2
  by_cases h2 : 2 ≤ k
  · have hn2 : ¬ (k : Int) < 2 := by omega
    have hw2 : IntKind.i64.wrap ((k : Int) - 2) = ((k - 2 : Nat) : Nat) := by rw [IntWalk.i64_in _ (by omega)]; omega
    have hw1 : IntKind.i64.wrap ((k : Int) - 1) = ((k - 1 : Nat) : Nat) := by rw [IntWalk.i64_in _ (by omega)]; omega
    have hw2' : (k : Int) - 2 = ((k - 2 : Nat) : Nat) := by omega
    have hw1' : (k : Int) - 1 = ((k - 1 : Nat) : Nat) := by omega
    have hSW : swapped s k = s.extract 0 (k - 2) ++ s.extract (k - 1) k ++ s.extract (k - 2) (k - 1) ++ s.extract k s.size := by rw [swapped, if_pos h2]
    obtain ⟨i, hi⟩ : ∃ i, i = k - 2 := ⟨_, rfl⟩
    obtain ⟨j, hj⟩ : ∃ j, j = k - 1 := ⟨_, rfl⟩
    rw [← hi, ← hj] at hSW
    rw [← hi] at hw2 hw2'
    rw [← hj] at hw1 hw1'
    have hij : i ≤ j := by omega
    have hjk : j ≤ k := by omega
    have z1 := size_sub s 0 i (by omega)
    have z2 := size_sub s j k (by omega)
    have z3 := size_sub s i j (by omega)
    have z4 := size_sub s k s.size (by omega)
    have o1 : (9223372036854775807 < (s.extract 0 i).size + (s.extract j k).size) = False := by simp; omega
    have o2 : (9223372036854775807 < (s.extract 0 i ++ s.extract j k).size + (s.extract i j).size) = False := by simp [ByteArray.size_append]; omega
    have o3 : (9223372036854775807 < (s.extract 0 i ++ s.extract j k ++ s.extract i j).size + (s.extract k s.size).size) = False := by simp [ByteArray.size_append]; omega
    have HI := Go.Lib.hid hi
    have HJ := Go.Lib.hid hj
    have HSW := Go.Lib.hid hSW
    have i0 : (0 : Int) ≤ i := by omega
    have i1 : (i : Int) ≤ j := by omega
    have i2 : (j : Int) ≤ k := by omega
    have i3 : (k : Int) ≤ s.size := by omega
    clear hi hj hSW z1 z2 z3 z4
    go_enter Tryd.func40, Tryd.ntmps40
    go_wp2_with fail
    go_quiet ((go_at_call 25; exact Calls.quiet_of (HTq.out _)))
    go_wp2_with fail
    have H1 : Hid (Buf (w.drewN nq) bb lb s k) := H.out.like (fun _ => rfl) (fun _ => rfl) rfl
    have B1 : Hid (Own bb lb w (w.drewN nq)) := (Own.of (below_drewN (Below.refl _ _) _))
    clear HTq c0 c1 c2 t g sz
    generalize w.drewN nq = w1 at H1 B1 ⊢
    obtain ⟨c0, c1, c2, -, -, t, -, g, -, sz⟩ := H1.out
    have HTq : Hid (∀ n, Calls Tryd.prog 25 #[.pointer (some ⟨bb, 0, none⟩)] (w1.drewN n) fun e w' => e = .returned (.string s) ∧ ∃ m, w' = (w1.drewN n).drewN m) := fun n =>
      buf_text bb lb s k (w1.drewN n) (H1.out.like (fun _ => rfl) (fun _ => rfl) rfl)
    go_quiet ((go_at_call 25; exact Calls.quiet_of (HTq.out _)))
    go_wp2_with fail
    have H2 : Hid (Buf (w1.drewN nq) bb lb s k) := H1.out.like (fun _ => rfl) (fun _ => rfl) rfl
    have B2 : Hid (Own bb lb w (w1.drewN nq)) := B1.out.trans (Own.of (below_drewN (Below.refl _ _) _))
    clear HTq c0 c1 c2 t g sz
    generalize w1.drewN nq = w2 at H2 B2 ⊢
    obtain ⟨c0, c1, c2, -, -, t, -, g, -, sz⟩ := H2.out
    have HTq : Hid (∀ n, Calls Tryd.prog 25 #[.pointer (some ⟨bb, 0, none⟩)] (w2.drewN n) fun e w' => e = .returned (.string s) ∧ ∃ m, w' = (w2.drewN n).drewN m) := fun n =>
      buf_text bb lb s k (w2.drewN n) (H2.out.like (fun _ => rfl) (fun _ => rfl) rfl)
    refine region_quiet_tail 21 (by kernel_rfl) (by kernel_rfl) ?_
    simp only [List.take_succ_cons, List.take_zero, List.drop_succ_cons, List.drop_zero]
    repeat (go_big_quiet_step ((go_at_call 25; exact Calls.quiet_of (HTq.out _))))
    refine wpQuiet_nil ?_
    intro _ hw'
    obtain ⟨nq, hw''⟩ := hw'
    subst hw''
    have H3 : Hid (Buf (w2.drewN nq) bb lb s k) := H2.out.like (fun _ => rfl) (fun _ => rfl) rfl
    go_wp2_with fail
    refine (set_text bb lb s _ k _ H3.out).mono ?_
    rintro e w3 ⟨rfl, h4, b4⟩
    have H4 := Go.Lib.hid h4
    clear h4
    go_wp2_with fail
    go_returns
    exact ⟨rfl, by rw [HSW.out]; exact H4.out, (B2.out.after (below_drewN (Below.refl _ _) _)).trans b4⟩
  · have hn2 : (k : Int) < 2 := by omega
    have hsw : Hid (swapped s k = s) := by rw [Hid, swapped, if_neg h2]
    go_enter Tryd.func40, Tryd.ntmps40
    go_wp2_with fail
    go_returns
    exact ⟨rfl, by rw [hsw.out]; exact H.out, Own.refl _ _ _⟩
end Go.Proofs.YtedjjimabchffaaDoor
