/- RuneBuffer.MoveToNextWord, impl.keyed at it. -/
import Derived.Test.YtoimdbmjpkmkfaaDoorKeyMore
import Derived.Test.YtoimdbmjpkmkfaaDoorRbWords
namespace Go.Proofs.YtoimdbmjpkmkfaaDoor
open Go.RowKit
set_option linter.unusedVariables false
set_option linter.unusedSimpArgs false

/-- Where the next word begins; the line's end without one. -/
def nextK (l : List Int) (k : Nat) : Nat := if aftW l (k + 1) = -1 then l.length else (aftW l (k + 1)).toNat

set_option maxHeartbeats 4000000 in
theorem next_cl (rb N : Nat) (l : List Int) (k : Nat) (kept : List Int) (w : World) (h : RB w rb l k kept) (hN : Cap w rb N) (hk : k ≤ l.length) (hl : l.length ≤ 100000) :
    Calls Tryd.prog 75 #[.pointer (some ⟨N, 0, none⟩)] w fun e w' => e = .returned (.tuple #[]) ∧ (RB w' rb l (nextK l k) kept ∧ Own rb w w') := by
  obtain ⟨A, cap, B, cap2, hv⟩ := h
  have HV := Go.Lib.hid hv
  have HN := Go.Lib.hid hN
  have c0 := hv.c0
  have c1 := hv.c1
  have f1 := hv.f 1
  have sz := hv.sz
  have cN := hN.c
  have ltN := hN.lt
  have neN := hN.ne
  clear hv hN
  go_enter Tryd.func75, Tryd.ntmps75
  go_wp2_with fail
  go_loop [1] (fun x => ∃ m : Nat, x = .int .i64 m ∧ 0 < m ∧ m ≤ l.length + 1 ∧ Hid (aftW l (k + 1) = aftW l m)) (fun x => l.length + 1 - (intOf x).toNat)
  case atStart => exact ⟨k + 1, by go_num, by omega, by omega, rfl⟩
  case round =>
    obtain ⟨m, rfl, hm0, hm1, HR⟩ := hrel
    by_cases hml : m < l.length
    · obtain ⟨g, rfl, _, cg⟩ := buf_nth HV.out m hml
      obtain ⟨g', hgg, _, cg'⟩ := buf_nth HV.out (m - 1) (by omega)
      cases hgg
      have hst := aftW_step l m hml
      have hR := HR.out
      rw [hst, begB_eq l m hm0 hml] at hR
      have HI := Go.Lib.hid fun w => isbreak_any (nth l m) w
      have HM := Go.Lib.hid fun w => isbreak_any (nth l (m - 1)) w
      obtain ⟨m1, hm1'⟩ : ∃ m1, m1 = m - 1 := ⟨_, rfl⟩
      rw [← hm1'] at hR cg' HM
      have hw : IntKind.i64.wrap ((m : Int) - 1) = (m1 : Nat) := by rw [IntWalk.i64_in _ (by omega)]; omega
      have hb1 : (m : Int) < l.length := by omega
      have hb3 : (m1 : Int) < l.length := by omega
      generalize nth l m = x at cg HI hR
      generalize nth l m1 = y at cg' HM hR
      generalize isW x = p at HI hR
      generalize isW y = q at HM hR
      have HR2 := Go.Lib.hid hR
      clear hR hst hm1'
      cases p
      · go_wp2_with fail
        refine (HI.out _).mono ?_
        rintro e w1 ⟨rfl, rfl⟩
        go_wp2_with fail
        go_round
        case rel => exact ⟨m + 1, by go_num, by omega, by omega, HR2.out⟩
        case measure => simp [intOf] <;> omega
      · cases q
        · have HF : Hid (nextK l k = m) := by
            show nextK l k = m
            unfold nextK
            have := HR2.out
            simp at this
            rw [this, if_neg (by omega)]
            rfl
          go_wp2_with fail
          refine (HI.out _).mono ?_
          rintro e w1 ⟨rfl, rfl⟩
          go_wp2_with fail
          refine (HM.out _).mono ?_
          rintro e w1 ⟨rfl, rfl⟩
          go_wp2_with fail
          go_returns
          exact ⟨rfl, by rw [HF.out]; exact ⟨_, _, _, _, HV.out.idx m⟩, (Own.refl _ _).set _ _⟩
        · go_wp2_with fail
          refine (HI.out _).mono ?_
          rintro e w1 ⟨rfl, rfl⟩
          go_wp2_with fail
          refine (HM.out _).mono ?_
          rintro e w1 ⟨rfl, rfl⟩
          go_wp2_with fail
          go_round
          case rel => exact ⟨m + 1, by go_num, by omega, by omega, HR2.out⟩
          case measure => simp [intOf] <;> omega
    · have hb1 : ¬ (m : Int) < l.length := by omega
      have HF : Hid (nextK l k = l.length) := by
        show nextK l k = l.length
        unfold nextK
        rw [HR.out.trans (aftW_end l m (by omega)), if_pos rfl]
      go_wp2_with fail
      refine region_quiet_tail 6 (by kernel_rfl) (by kernel_rfl) ?_
      simp only [List.take_succ_cons, List.take_zero, List.drop_succ_cons, List.drop_zero]
      repeat (go_big_quiet_step (fail))
      refine wpQuiet_nil ?_
      intro _ hw'
      obtain ⟨nq, hw''⟩ := hw'
      subst hw''
      go_wp2_with fail
      go_returns
      exact ⟨rfl, by rw [HF.out]; exact ⟨_, _, _, _, (HV.out.below (below_drewN (Below.refl _ _) nq)).idx l.length⟩, ((Own.refl _ _).drewN _).set _ _⟩
end Go.Proofs.YtoimdbmjpkmkfaaDoor
