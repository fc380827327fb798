/- The walk of laws.FnWordBounds. -/
import Derived.Test.YtedjjimabchffaaWordBounds
namespace Go.Proofs.Ytedjjimabchffaa
open Go.RowKit
set_option linter.unusedVariables false
set_option linter.unusedSimpArgs false

/-- What is told, with the words' names in the place of what they are. -/
def TellTwo (WB WA : ByteArray) (w : World) (e : Ending) (w' : World) : Prop :=
  ∃ (X Y lb la l SB SA : ByteArray) (r c te : Int) (g n cap : Nat) (bb : Bool), e = .returned (.agg #[.string X, .string Y, .string lb, .string la, .string l, .int .i64 r, .int .i64 c, .slice (some ⟨g, 0, none⟩) n cap, .bool bb, .int .i64 te, .string WB, .string WA, .string SB, .string SA]) ∧ Below w.heap.size w w'

set_option maxRecDepth 100000 in
set_option maxHeartbeats 4000000 in
theorem bounds_core (s : ByteArray) (k : Nat) (w : World) (hs : Small s) (hk : k ≤ s.size) :
    Calls Try.prog 6 #[.agg #[.string s, .int .i64 (k : Nat)]] w fun e w' => e = .returned (.bool true) ∧ Below w.heap.size w w' := by
  have T := fun w => (around_any s k w hs hk).mono fun e w' ⟨g, cap, he, hb⟩ => (show TellTwo ((s.extract 0 k).extract (wStart (s.extract 0 k)) k) ((s.extract k s.size).extract 0 (wEnd (s.extract k s.size))) w e w' from ⟨_, _, _, _, _, _, _, _, _, _, g, _, cap, _, he, hb⟩)
  obtain ⟨e1, e2, p1, p2, p3, p4, p5⟩ := bounds_law s k hk
  rw [e1, e2] at T
  have hsz := hs.2
  generalize wStart (s.extract 0 k) = n at T p1 p3 p4
  generalize wEnd (s.extract k s.size) = m at T p2 p3 p5
  clear e1 e2
  have za := size_sub s n k hk
  have zb := size_sub s k (k + m) p2
  have hj := extract_join s n k (k + m) p1 (by omega) p2
  have hb : ∀ i, i < k + m - n → byteAt (s.extract n (k + m)) i ≠ 32 := fun i hi => by
    rw [byteAt_extract s n i (k + m) (by omega)]; exact p3 (n + i) (by omega) (by omega)
  have zj := size_sub s n (k + m) p2
  obtain ⟨a, ha⟩ : ∃ a, a = s.extract n k := ⟨_, rfl⟩
  obtain ⟨b, hb0⟩ : ∃ b, b = s.extract k (k + m) := ⟨_, rfl⟩
  rw [← ha, ← hb0] at T hj
  rw [← ha] at za
  rw [← hb0] at zb
  rw [← hj] at hb zj
  have ZA := Go.Lib.hid za
  have ZB := Go.Lib.hid zb
  have HB := Go.Lib.hid hb
  have HJ := Go.Lib.hid hj
  have ZJ := Go.Lib.hid zj
  have P4 := Go.Lib.hid p4
  have P5 := Go.Lib.hid p5
  have HT := Go.Lib.hid T
  have hR : Right s (k : Int) := ⟨hs, by omega, by omega⟩
  have HR := Go.Lib.hid hR
  have ba : a.size ≤ 1000 := by omega
  have bb : b.size ≤ 1000 := by omega
  clear za zb hb hj zj p3 p4 p5 T hR hs ha hb0
  go_enter Try.func6, Try.ntmps6
  go_wp2_with fail
  refine (fits2_yes s _ _ (by omega)).mono ?_
  rintro e w1 ⟨rfl, rfl⟩
  go_wp2_with fail
  refine (right_yes s _ _ HR.out).mono ?_
  rintro e w1 ⟨rfl, rfl⟩
  go_wp2_with fail
  refine (HT.out _).mono ?_
  rintro e w1 ⟨X, Y, lb, la, l, SB, SA, r, c, te, ga, na, ca, bo, rfl, b1⟩
  have c0 : w1.cell? ⟨w.heap.size, 0, none⟩ = some (.string s) := (b1.cell (p := ⟨w.heap.size, 0, none⟩) (by simp <;> omega)).trans (by simp [go_sem])
  have c1 : w1.cell? ⟨w.heap.size, 1, none⟩ = some (.int .i64 (k : Nat)) := (b1.cell (p := ⟨w.heap.size, 1, none⟩) (by simp <;> omega)).trans (by simp [go_sem])
  have hb1 : Below w.heap.size w w1 := ((((Below.refl w.heap.size w).alloc (Nat.le_refl _) _).alloc (by simp) _).alloc (by simp; omega) _).trans (b1.mono (by simp; omega))
  have hlt : w.heap.size < w1.heap.size := by have := b1.size; simp at this; omega
  clear b1
  go_wp2_with fail
  go_quiet (fail)
  go_wp2_with fail
  go_loop [6] (fun i => ∃ j : Nat, j ≤ a.size + b.size ∧ i = .int .i64 j) (fun i => a.size + b.size - (intOf i).toNat)
  case atStart => exact ⟨0, Nat.zero_le _, rfl⟩
  case round =>
    obtain ⟨j, hj, rfl⟩ := hrel
    by_cases hjl : j < a.size + b.size
    · have h1 : j < (a ++ b).size := by rw [ByteArray.size_append]; exact hjl
      have hne : (((a ++ b)[j].toNat : Int) == 32) = false := by
        have := HB.out j (by have := ZA.out; have := ZB.out; omega)
        rw [byteAt_lt _ j h1] at this
        simpa using this
      have h2 : (j : Int) < (a.size : Int) + (b.size : Int) := by omega
      go_wp2_with fail
      go_round
      case rel => exact ⟨j + 1, by omega, by go_num⟩
      case measure => simp [intOf]; omega
    · have h2 : ¬ (j : Int) < (a.size : Int) + (b.size : Int) := by omega
      have hfrom : (k : Int) - (a.size : Int) = (n : Int) := by have := ZA.out; omega
      obtain ⟨t, ht⟩ : ∃ t, t = k + m := ⟨_, rfl⟩
      have hto : (k : Int) + (b.size : Int) = (t : Int) := by have := ZB.out; omega
      have t1 : (t : Int) ≤ s.size := by omega
      have t2 : (n : Int) ≤ t := by omega
      have t3 : (0 : Int) ≤ n := by omega
      have hex : (s.extract n t).toList = (a ++ b).toList := by rw [ht, HJ.out]
      have hex2 : ((s.extract n t).toList == (a ++ b).toList) = true := by rw [hex]; simp
      have HEX := Go.Lib.hid hex
      have P5' : Hid (t = s.size ∨ byteAt s t = 32) := by rw [Hid, ht]; exact P5.out
      clear ht hex
      have hq : ∃ q : Nat, (n = 0 ∧ q = 0) ∨ n = q + 1 := by
        cases n with
        | zero => exact ⟨0, .inl ⟨rfl, rfl⟩⟩
        | succ q => exact ⟨q, .inr rfl⟩
      obtain ⟨q, hq⟩ := hq
      by_cases n0 : n = 0
      · have z1 : ((n : Int) == 0) = true := by simp [n0]
        have HN0 := Go.Lib.hid n0
        clear n0 hq
        by_cases tt : t = s.size
        · have z2 : ((t : Int) == (s.size : Int)) = true := by simp [tt]
          clear tt
          go_wp2_with fail
          go_quiet (fail)
          go_wp2_with fail
          all_goals go_returns
          all_goals exact ⟨rfl, by first | exact below_drewN (hb1.alloc (by have := hb1.size; omega) _) _ | exact hb1⟩
        · have z2 : ((t : Int) == (s.size : Int)) = false := by simp; omega
          have t4 : (t : Int) < s.size := by omega
          have t5 : t < s.size := by omega
          have z3 : ((s[t].toNat : Int) == 32) = true := by
            rw [← byteAt_lt s t t5]
            rcases P5'.out with h | h
            · exact absurd h tt
            · rw [h]; rfl
          clear tt
          go_wp2_with fail
          go_quiet (fail)
          go_wp2_with fail
          all_goals go_returns
          all_goals exact ⟨rfl, by first | exact below_drewN (hb1.alloc (by have := hb1.size; omega) _) _ | exact hb1⟩
      · have z1 : ((n : Int) == 0) = false := by simp; omega
        have hq1 : (n : Int) - 1 = (q : Int) := by omega
        have hq2 : q < s.size := by omega
        have hq3 : (q : Int) < s.size := by omega
        have z4 : ((s[q].toNat : Int) == 32) = true := by
          rw [← byteAt_lt s q hq2]
          rcases P4.out with h | h
          · exact absurd h n0
          · rw [show n - 1 = q by omega] at h
            rw [h]; rfl
        clear n0 hq
        by_cases tt : t = s.size
        · have z2 : ((t : Int) == (s.size : Int)) = true := by simp [tt]
          clear tt
          go_wp2_with fail
          go_quiet (fail)
          go_wp2_with fail
          all_goals go_returns
          all_goals exact ⟨rfl, by first | exact below_drewN (hb1.alloc (by have := hb1.size; omega) _) _ | exact hb1⟩
        · have z2 : ((t : Int) == (s.size : Int)) = false := by simp; omega
          have t4 : (t : Int) < s.size := by omega
          have t5 : t < s.size := by omega
          have z3 : ((s[t].toNat : Int) == 32) = true := by
            rw [← byteAt_lt s t t5]
            rcases P5'.out with h | h
            · exact absurd h tt
            · rw [h]; rfl
          clear tt
          go_wp2_with fail
          go_quiet (fail)
          go_wp2_with fail
          all_goals go_returns
          all_goals exact ⟨rfl, by first | exact below_drewN (hb1.alloc (by have := hb1.size; omega) _) _ | exact hb1⟩

namespace fnWordBounds
theorem walk (s : ByteArray) (at_ : Int) (w : World) (hs : s.size ≤ maxLen) (hat : (Lit.int .i64 at_).wf = true) :
    Calls Try.prog 6 #[.agg #[.string s, .int .i64 at_]] w fun e w' => e = .returned (.bool true) ∧ Below w.heap.size w w' := by
  unfold maxLen at hs
  clear hat
  by_cases h1 : 2147483647 < (s.size : Int)
  · go_enter Try.func6, Try.ntmps6
    go_wp2_with fail
    refine (fits2_no s at_ _ h1 (by omega)).mono ?_
    rintro e w1 ⟨rfl, rfl⟩
    go_wp2_with fail
    go_returns
    exact ⟨rfl, by go_grown⟩
  by_cases h2 : Right s at_
  · obtain ⟨i, rfl⟩ := Int.eq_ofNat_of_zero_le h2.2.1
    exact bounds_core s i w h2.1 (by have := h2.2.2; omega)
  · have H2 := Go.Lib.hid h2
    clear h2
    go_enter Try.func6, Try.ntmps6
    go_wp2_with fail
    refine (fits2_yes s _ _ (by omega)).mono ?_
    rintro e w1 ⟨rfl, rfl⟩
    go_wp2_with fail
    refine (right_no s _ _ hs H2.out).mono ?_
    rintro e w1 ⟨rfl, rfl⟩
    go_wp2_with fail
    go_returns
    exact ⟨rfl, by go_grown⟩
end fnWordBounds
end Go.Proofs.Ytedjjimabchffaa
