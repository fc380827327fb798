/- The walk of laws.FnLineCounted: what the package counts is the quotient that the reference has, at 1 to 1000 columns and 0 to 100000 signs. -/
import Derived.Test.YtkljpbpojbhbbaaCaught
import Derived.Shelf.Abstract
namespace Go.Proofs.Ytkljpbpojbhbbaa
open Go.RowKit

theorem ceil_eq (a b : Int) (h1 : 1 ≤ a) (h3 : 0 ≤ b) : b / a + (if b % a = 0 then 0 else 1) = (b + a - 1) / a := by
  have hm := Int.emod_add_mul_ediv b a
  have hl := Int.emod_nonneg b (show a ≠ 0 by omega)
  have hu := Int.emod_lt_of_pos b (show 0 < a by omega)
  split
  · rename_i h
    have e : b + a - 1 = (a - 1) + a * (b / a) := by omega
    have e0 : (a - 1) / a = 0 := Int.ediv_eq_zero_of_lt (by omega) (by omega)
    rw [e, Int.add_mul_ediv_left _ _ (by omega), e0]; omega
  · rename_i h
    have e : b + a - 1 = (b % a - 1) + a * (b / a + 1) := by rw [Int.mul_add]; omega
    have e0 : (b % a - 1) / a = 0 := Int.ediv_eq_zero_of_lt (by omega) (by omega)
    rw [e, Int.add_mul_ediv_left _ _ (by omega), e0]; omega

theorem lineCount_any (a b : Int) (w : World) (h1 : 1 ≤ a) (h2 : a ≤ 1000) (h3 : 0 ≤ b) (h4 : b ≤ 100000) :
    Calls Try.prog 21 #[.int .i64 a, .int .i64 b] w fun e w' => e = .returned (.int .i64 ((b + a - 1) / a)) ∧ w = w' := by
  have hc := ceil_eq a b h1 h3
  have hq0 : 0 ≤ b / a := Int.ediv_nonneg h3 (by omega)
  have hq1 : b / a ≤ 100000 := Int.le_trans (Int.ediv_le_self _ h3) h4
  have H := Go.Lib.hid hc
  clear hc
  by_cases hz : b % a = 0
  · have hz' : (b % a != 0) = false := by simp [hz]
    have H2 := Go.Lib.hid hz
    clear hz
    go_enter Try.func21, Try.ntmps21
    go_wp2
    go_ret
    rw [← H.out, if_pos H2.out]
    exact ⟨by simp, rfl⟩
  · have hz' : (b % a != 0) = true := by simp [hz]
    have H2 := Go.Lib.hid hz
    clear hz
    go_enter Try.func21, Try.ntmps21
    go_wp2
    go_ret
    rw [← H.out, if_neg H2.out]
    exact ⟨by simp, rfl⟩

theorem ceil_any (a b : Int) (w : World) (h1 : 1 ≤ a) (h2 : a ≤ 1000) (h3 : 0 ≤ b) (h4 : b ≤ 100000) :
    Calls Try.prog 10 #[.int .i64 a, .int .i64 b] w fun e w' => e = .returned (.int .i64 ((b + a - 1) / a)) ∧ w = w' := by
  go_enter Try.func10, Try.ntmps10
  go_wp2
  go_ret
  exact ⟨rfl, rfl⟩

theorem closure_any (a b : Int) (pa pb pn : Addr) (x : Value) (w : World) (h1 : 1 ≤ a) (h2 : a ≤ 1000) (h3 : 0 ≤ b) (h4 : b ≤ 100000)
    (ha : w.cell? pa = some (.int .i64 a)) (hb : w.cell? pb = some (.int .i64 b)) (hn : w.cell? pn = some x) (hf : w.frozen? pn = false) :
    Calls Try.prog 20 #[.pointer (some pa), .pointer (some pb), .pointer (some pn)] w fun e w' => e = .returned (.tuple #[]) ∧ w' = w.setCell pn (.int .i64 ((b + a - 1) / a)) := by
  go_enter Try.func20, Try.ntmps20
  go_wp2_with (go_at_call 21; refine (lineCount_any a b _ h1 h2 h3 h4).mono ?_; rintro e w' ⟨rfl, rfl⟩)
  go_end0
  exact ⟨rfl, rfl⟩

theorem counted_any (a b : Int) (w : World) (h1 : 1 ≤ a) (h2 : a ≤ 1000) (h3 : 0 ≤ b) (h4 : b ≤ 100000) :
    Calls Try.prog 9 #[.int .i64 a, .int .i64 b] w fun e w' => e = .returned (.tuple #[.int .i64 ((b + a - 1) / a), .bool true]) ∧ Below w.heap.size w w' := by
  have hmf : ∀ (fn : Fn) (first cap : Array Value) (w : World), (Instr.makeFunc fn first cap).run Try.prog w = .ok (.func fn first cap) w := fun _ _ _ _ => rfl
  have eg : Enters Try.prog 20 := enters_of Try.func20 (by kernel_rfl) rfl
  go_enter Try.func9, Try.ntmps9
  go_wp2_with fail
  refine (caught_ret 20 _ _ (fun w1 => w1 = ((((w.alloc (.cells #[.int .i64 a] 3)).alloc (.cells #[.int .i64 b] 3)).alloc (.cells #[.int .i64 0] 3)).alloc (.cells #[.bool false] 4)).setCell ⟨w.heap.size + 1 + 1, 0, none⟩ (.int .i64 ((b + a - 1) / a))) eg ?_).mono ?_
  · refine (closure_any a b _ _ _ (.int .i64 0) _ h1 h2 h3 h4 ?_ ?_ ?_ ?_).mono ?_
    · simp [go_sem]
    · simp [go_sem]
    · simp [go_sem]
    · simp [go_sem]
    rintro e w' ⟨rfl, rfl⟩
    refine ⟨rfl, rfl, ?_, ?_⟩
    · simp [go_sem]
    · simp [go_sem]
  rintro e w1 ⟨rfl, w2, rfl, rfl⟩
  go_wp2
  go_returns
  exact ⟨by simp [go_sem], by go_grown⟩

namespace fnLineCounted
theorem walk (a b : Int) (w : World) (_wa : (Lit.int .i64 a).wf = true) (_wb : (Lit.int .i64 b).wf = true) :
    Calls Try.prog 4 #[.int .i64 a, .int .i64 b] w fun e w' => e = .returned (.bool true) ∧ Below w.heap.size w w' := by
  by_cases h1 : a < 1
  · go_enter Try.func4, Try.ntmps4
    go_wp2_with fail
    go_returns
    exact ⟨rfl, Below.refl _ _⟩
  by_cases h2 : 1000 < a
  · go_enter Try.func4, Try.ntmps4
    go_wp2_with fail
    go_returns
    exact ⟨rfl, Below.refl _ _⟩
  by_cases h3 : b < 0
  · go_enter Try.func4, Try.ntmps4
    go_wp2_with fail
    go_returns
    exact ⟨rfl, Below.refl _ _⟩
  by_cases h4 : 100000 < b
  · go_enter Try.func4, Try.ntmps4
    go_wp2_with fail
    go_returns
    exact ⟨rfl, Below.refl _ _⟩
  go_enter Try.func4, Try.ntmps4
  go_wp2_with fail
  refine (counted_any a b _ (by omega) (by omega) (by omega) (by omega)).mono ?_
  rintro e w1 ⟨rfl, hb⟩
  go_wp2_with fail
  refine (ceil_any a b _ (by omega) (by omega) (by omega) (by omega)).mono ?_
  rintro e w2 ⟨rfl, rfl⟩
  go_wp2_with fail
  go_returns
  exact ⟨rfl, hb⟩
end fnLineCounted
end Go.Proofs.Ytkljpbpojbhbbaa
