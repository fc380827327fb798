/- laws.FnWidth. -/
import Derived.Test.YtakmcnincmgadaaWidth2
namespace Go.Proofs.Ytakmcnincmgadaa
open Go.RowKit
set_option linter.unusedVariables false
set_option linter.unusedSimpArgs false

theorem coloured_any (s : ByteArray) (w : World) (hs : s.size ≤ 2147483647) : Calls Try.prog 4 #[.string s] w fun e w' => StripPost s w e w' ∧ ∀ o : ByteArray, e = .returned (.tuple #[.string o, .bool true]) → s.size ≤ 2000 := by
  by_cases h : (2000 : Int) < s.size
  · go_enter Try.func4, Try.ntmps4
    go_wp2_with fail
    go_returns
    exact ⟨⟨⟨#[]⟩, false, rfl, (fun h => by cases h), Below.refl _ _⟩, fun o h => by simp at h⟩
  · have hs2 : s.size ≤ 2000 := by omega
    go_enter Try.func4, Try.ntmps4
    go_wp2_with fail
    refine (stripped_any s w hs2).mono ?_
    rintro e w1 ⟨o, b, rfl, hb, b1⟩
    have HB := Go.Lib.hid hb
    have B1 := Go.Lib.hid b1
    clear hb b1
    go_wp2_with fail
    go_returns
    exact ⟨⟨o, b, rfl, HB.out, B1.out⟩, fun _ _ => hs2⟩

theorem impl_width (s : ByteArray) (w : World) (ha : IsAscii s) (hs : s.size ≤ 2000) : Calls Try.prog 5 #[.string s] w (WidthPost (st (bs s)).1 w) := by
  have H := Go.Lib.hid (printable_any s w ha hs)
  generalize (st (bs s)).1 = n at H ⊢
  go_enter Try.func5, Try.ntmps5
  go_wp2_with fail
  refine H.out.mono ?_
  rintro e w1 ⟨rfl, b1⟩
  have B1 := Go.Lib.hid b1
  clear b1
  go_wp2_with fail
  go_returns
  exact ⟨rfl, B1.out⟩

namespace fnWidth
def Post (w : World) (e : Ending) (w' : World) : Prop := e = .returned (.bool true) ∧ Below w.heap.size w w'

set_option maxRecDepth 100000 in
set_option maxHeartbeats 4000000 in
theorem walk (s : ByteArray) (w : World) (_hs : s.size ≤ maxLen) :
    Calls Try.prog 3 #[.string s] w fun e w' => e = .returned (.bool true) ∧ Below w.heap.size w w' := by
  show Calls _ _ _ _ (Post w)
  clear _hs
  by_cases h : (2147483647 : Int) < s.size
  · go_enter Try.func3, Try.ntmps3
    go_wp2_with fail
    go_returns
    exact ⟨rfl, Below.refl _ _⟩
  have hs2 : s.size ≤ 2147483647 := by omega
  have HA : Hid (∀ w, Calls Try.prog 5 #[.string ⟨#[97]⟩] w (WidthPost 1 w)) := fun w => impl_width ⟨#[97]⟩ w (fun b hb => by simp at hb; subst hb; decide) (by decide)
  go_enter Try.func3, Try.ntmps3
  go_wp2_with fail
  refine (coloured_any s w hs2).mono ?_
  rintro e w1 ⟨⟨o, b, rfl, hb, b1⟩, hsz⟩
  have B1 := Go.Lib.hid b1
  cases b
  · clear hb hsz b1
    go_wp2_with fail
    go_returns
    exact ⟨rfl, B1.out⟩
  obtain ⟨ha, hst, hol⟩ := hb rfl
  have hs3 := hsz o rfl
  have HW := Go.Lib.hid (fun w => impl_width s w ha hs3)
  rw [hst] at HW
  have HS := Go.Lib.hid (fun w => width_spec o w (by omega))
  generalize signs (bs o) = n at HW HS
  clear hb hsz b1 ha hst hol hs3
  go_wp2_with fail
  refine (HW.out _).mono ?_
  rintro e w2 ⟨rfl, b2⟩
  have B2 : Hid (Below w.heap.size w w2) := B1.out.trans (b2.mono B1.out.size)
  clear b2
  go_wp2_with fail
  refine (HS.out _).mono ?_
  rintro e w3 ⟨rfl, rfl⟩
  go_wp2_with fail
  refine (HA.out _).mono ?_
  rintro e w3 ⟨rfl, b3⟩
  have B3 : Hid (Below w.heap.size w w3) := B2.out.trans (b3.mono B2.out.size)
  clear b3
  go_wp2_with fail
  go_returns
  exact ⟨rfl, B3.out⟩
end fnWidth
end Go.Proofs.Ytakmcnincmgadaa
