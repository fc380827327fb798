/- The walk of laws.FnUndone, whatever comes in. -/
import Derived.Test.YtedjjimabchffaaDoorUndone
import Derived.OpenShut
namespace Go.Proofs.YtedjjimabchffaaDoor
open Go.RowKit
set_option linter.unusedVariables false
set_option linter.unusedSimpArgs false

namespace fnUndone
set_option maxRecDepth 100000 in
set_option maxHeartbeats 4000000 in
theorem walk (s : ByteArray) (at_ : Int) (a1 : Option Addr) (len1 cap1 : Nat) (z1 : List ByteArray) (a2 : Option Addr) (len2 cap2 : Nat) (z2 : List Int) (w : World) (hs : s.size ≤ maxLen) (hat : (Lit.int .i64 at_).wf = true)
    (w1 : z1.length = len1 ∧ IsStrs w a1 z1) (w2 : z2.length = len2 ∧ IsInts .u8 w a2 z2 ∧ ∀ n ∈ z2, (Lit.int .u8 n).wf = true) {X : Prop} (_hL : X) :
    Calls Tryd.prog 8 #[.agg #[.string s, .int .i64 at_], .slice a1 len1 cap1, .slice a2 len2 cap2] w fun e w' => e = .returned (.bool true) ∧ Below w.heap.size w w' := by
  unfold maxLen at hs
  obtain ⟨rfl, h1⟩ := w1
  obtain ⟨rfl, h2, hwf⟩ := w2
  clear hat _hL
  by_cases g1 : 2147483647 < (s.size : Int)
  · go_enter Tryd.func8, Tryd.ntmps8
    go_wp2_with fail
    refine (fits2_no s at_ _ g1 (by omega)).mono ?_
    rintro e w1 ⟨rfl, rfl⟩
    go_wp2_with fail
    go_returns
    exact ⟨rfl, by go_grown⟩
  have hb2 : Below w.heap.size w ((w.alloc (.cells #[.string s, .int .i64 at_] 23)).alloc (.cells #[.string s, .int .i64 at_] 23)) := ((Below.refl w.heap.size w).alloc (Nat.le_refl _) _).alloc (by simp) _
  have hfit := fits1_any a1 cap1 z1 _ (h1.below hb2)
  by_cases g2 : z1.length ≤ 2147483647 ∧ ∀ s ∈ z1, s.size ≤ 2147483647
  · have hyes : Calls Tryd.prog 15 #[.slice a1 z1.length cap1] ((w.alloc (.cells #[.string s, .int .i64 at_] 23)).alloc (.cells #[.string s, .int .i64 at_] 23)) fun e w' => e = .returned (.bool true) ∧ ((w.alloc (.cells #[.string s, .int .i64 at_] 23)).alloc (.cells #[.string s, .int .i64 at_] 23)) = w' :=
      hfit.mono fun e w' ⟨b, he, hb, hw⟩ => by
        obtain rfl := hb.2 g2
        exact ⟨he, hw.symm⟩
    have HY := Go.Lib.hid hyes
    have G2 := Go.Lib.hid g2
    clear hyes hfit
    obtain ⟨n1, hn1⟩ : ∃ n, n = z1.length := ⟨_, rfl⟩
    obtain ⟨n2, hn2⟩ : ∃ n, n = z2.length := ⟨_, rfl⟩
    have N1 := Go.Lib.hid hn1
    have N2 := Go.Lib.hid hn2
    by_cases g3 : (2147483647 : Int) < n2
    · rw [← hn1, ← hn2]
      clear h1 h2 hwf g2 hn1 hn2
      go_enter Tryd.func8, Tryd.ntmps8
      go_wp2_with fail
      refine (fits2_yes s _ _ (by omega)).mono ?_
      rintro e w1 ⟨rfl, rfl⟩
      go_wp2_with fail
      rw [N1.out]
      refine HY.out.mono ?_
      rw [← N1.out]
      rintro e w1 ⟨rfl, rfl⟩
      go_wp2_with fail
      go_returns
      exact ⟨rfl, by go_grown⟩
    by_cases g4 : Right s at_
    · by_cases g5 : (6 : Int) < n1
      · have HR := Go.Lib.hid g4
        rw [← hn1, ← hn2]
        clear h1 h2 hwf g2 hn1 hn2 g4
        go_enter Tryd.func8, Tryd.ntmps8
        go_wp2_with fail
        refine (fits2_yes s _ _ (by omega)).mono ?_
        rintro e w1 ⟨rfl, rfl⟩
        go_wp2_with fail
        rw [N1.out]
        refine HY.out.mono ?_
        rw [← N1.out]
        rintro e w1 ⟨rfl, rfl⟩
        go_wp2_with fail
        refine (right_yes s _ _ HR.out).mono ?_
        rintro e w1 ⟨rfl, rfl⟩
        go_wp2_with fail
        go_returns
        exact ⟨rfl, by go_grown⟩
      by_cases g6 : (6 : Int) < n2
      · have HR := Go.Lib.hid g4
        rw [← hn1, ← hn2]
        clear h1 h2 hwf g2 hn1 hn2 g4
        go_enter Tryd.func8, Tryd.ntmps8
        go_wp2_with fail
        refine (fits2_yes s _ _ (by omega)).mono ?_
        rintro e w1 ⟨rfl, rfl⟩
        go_wp2_with fail
        rw [N1.out]
        refine HY.out.mono ?_
        rw [← N1.out]
        rintro e w1 ⟨rfl, rfl⟩
        go_wp2_with fail
        refine (right_yes s _ _ HR.out).mono ?_
        rintro e w1 ⟨rfl, rfl⟩
        go_wp2_with fail
        go_returns
        exact ⟨rfl, by go_grown⟩
      · obtain ⟨k, rfl⟩ := Int.eq_ofNat_of_zero_le g4.2.1
        exact core s k a1 cap1 z1 a2 cap2 z2 w g4.1 (by have := g4.2.2; omega) h1 h2 (fun c hc => Go.bounds_u8 (hwf c hc)) (by omega) (by omega) G2.out.2 HY.out
    · have HR := Go.Lib.hid g4
      rw [← hn1, ← hn2]
      clear h1 h2 hwf g2 hn1 hn2 g4
      go_enter Tryd.func8, Tryd.ntmps8
      go_wp2_with fail
      refine (fits2_yes s _ _ (by omega)).mono ?_
      rintro e w1 ⟨rfl, rfl⟩
      go_wp2_with fail
      rw [N1.out]
      refine HY.out.mono ?_
      rw [← N1.out]
      rintro e w1 ⟨rfl, rfl⟩
      go_wp2_with fail
      refine (right_no s _ _ (by omega) HR.out).mono ?_
      rintro e w1 ⟨rfl, rfl⟩
      go_wp2_with fail
      go_returns
      exact ⟨rfl, by go_grown⟩
  · have hno : Calls Tryd.prog 15 #[.slice a1 z1.length cap1] ((w.alloc (.cells #[.string s, .int .i64 at_] 23)).alloc (.cells #[.string s, .int .i64 at_] 23)) fun e w' => e = .returned (.bool false) ∧ ((w.alloc (.cells #[.string s, .int .i64 at_] 23)).alloc (.cells #[.string s, .int .i64 at_] 23)) = w' :=
      hfit.mono fun e w' ⟨b, he, hb, hw⟩ => by
        cases b
        · exact ⟨he, hw.symm⟩
        · exact absurd (hb.1 rfl) g2
    have HN := Go.Lib.hid hno
    clear hno hfit h1 h2 hwf g2
    go_enter Tryd.func8, Tryd.ntmps8
    go_wp2_with fail
    refine (fits2_yes s _ _ (by omega)).mono ?_
    rintro e w1 ⟨rfl, rfl⟩
    go_wp2_with fail
    refine HN.out.mono ?_
    rintro e w1 ⟨rfl, rfl⟩
    go_wp2_with fail
    go_returns
    exact ⟨rfl, by go_grown⟩
end fnUndone
end Go.Proofs.YtedjjimabchffaaDoor
