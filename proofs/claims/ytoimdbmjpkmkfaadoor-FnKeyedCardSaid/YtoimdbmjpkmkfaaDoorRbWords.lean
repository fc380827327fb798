/- Words in a rune buffer: IsWordBreak, BackEscapeWord, DeleteWord (printed by wip/gen/mkrbwords.py). -/
import Derived.Test.YtoimdbmjpkmkfaaDoorRbMove
import Derived.Test.YtoimdbmjpkmkfaaDoorWordPl
namespace Go.Proofs.YtoimdbmjpkmkfaaDoor
open Go.RowKit
set_option linter.unusedVariables false
set_option linter.unusedSimpArgs false

theorem isbreak_any (c : Int) (w : World) : Calls Tryd.prog 74 #[.int .i32 c] w fun e w' => e = .returned (.bool (!isW c)) ∧ w = w' := by
  obtain ⟨r, hr⟩ : ∃ r, r = !isW c := ⟨_, rfl⟩
  rw [← hr]
  unfold isW at hr
  have HR := Go.Lib.hid hr
  clear hr
  by_cases a1 : 97 ≤ c
  · by_cases a2 : c ≤ 122
    · skip
      obtain rfl : r = false := by rw [HR.out]; simp; omega
      go_enter Tryd.func74, Tryd.ntmps74
      go_wp2_with fail
      go_returns
      exact ⟨rfl, rfl⟩
    · skip
      obtain rfl : r = true := by rw [HR.out]; simp; omega
      have d2 : decide (c ≤ 122) = false := by simp; omega
      have d3 : decide (c ≤ 90) = false := by simp; omega
      have d4 : decide (c ≤ 57) = false := by simp; omega
      go_enter Tryd.func74, Tryd.ntmps74
      go_wp2_with fail
      go_returns
      exact ⟨rfl, rfl⟩
  · have d1 : decide (97 ≤ c) = false := by simp; omega
    by_cases a3 : 65 ≤ c
    · by_cases a4 : c ≤ 90
      · skip
        obtain rfl : r = false := by rw [HR.out]; simp; omega
        go_enter Tryd.func74, Tryd.ntmps74
        go_wp2_with fail
        go_returns
        exact ⟨rfl, rfl⟩
      · skip
        obtain rfl : r = true := by rw [HR.out]; simp; omega
        have d3 : decide (c ≤ 90) = false := by simp; omega
        have d4 : decide (c ≤ 57) = false := by simp; omega
        go_enter Tryd.func74, Tryd.ntmps74
        go_wp2_with fail
        go_returns
        exact ⟨rfl, rfl⟩
    · have d3 : decide (65 ≤ c) = false := by simp; omega
      by_cases a5 : 48 ≤ c
      · by_cases a6 : c ≤ 57
        · skip
          obtain rfl : r = false := by rw [HR.out]; simp; omega
          go_enter Tryd.func74, Tryd.ntmps74
          go_wp2_with fail
          go_returns
          exact ⟨rfl, rfl⟩
        · skip
          obtain rfl : r = true := by rw [HR.out]; simp; omega
          have d4 : decide (c ≤ 57) = false := by simp; omega
          go_enter Tryd.func74, Tryd.ntmps74
          go_wp2_with fail
          go_returns
          exact ⟨rfl, rfl⟩
      · skip
        obtain rfl : r = true := by rw [HR.out]; simp; omega
        have d4 : decide (48 ≤ c) = false := by simp; omega
        go_enter Tryd.func74, Tryd.ntmps74
        go_wp2_with fail
        go_returns
        exact ⟨rfl, rfl⟩

theorem buf_nth {w : World} {rb : Nat} {l : List Int} {k : Nat} {kept : List Int} {A : Option Addr} {cap : Nat} {B : Option Addr} {cap2 : Nat} (h : RBv w rb l k kept A cap B cap2) (m : Nat) (hm : m < l.length) : ∃ g, A = some ⟨g, 0, none⟩ ∧ g ≠ rb ∧ w.cell? ⟨g, m, none⟩ = some (.int .i32 (nth l m)) := by
  rcases h.r0.own with ⟨_, _, e⟩ | ⟨g, rfl, hg, hlt, _, _, hc⟩
  · rw [e] at hm; simp at hm
  · exact ⟨g, rfl, by omega, hc m _ (by simp [nth, hm])⟩

theorem begB_eq (l : List Int) (m : Nat) (h0 : 0 < m) (h1 : m < l.length) : begB l m = (isW (nth l m) && !isW (nth l (m - 1))) := by
  unfold begB
  rw [show decide (0 < m ∧ m < l.length) = true by simp; omega, Bool.true_and]
theorem begB_zero (l : List Int) : begB l 0 = false := by simp [begB]

set_option maxRecDepth 100000 in
set_option maxHeartbeats 4000000 in
theorem backword_cl (rb N : Nat) (l : List Int) (k : Nat) (kept : List Int) (w : World) (h : RB w rb l k kept) (hN : Cap w rb N) (hk : k ≤ l.length) (hl : l.length ≤ 100000) (i : Nat) (hi : befW l k = (i : Nat)) :
    Calls Tryd.prog 78 #[.pointer (some ⟨N, 0, none⟩)] w fun e w' => e = .returned (.tuple #[]) ∧ (RB w' rb (l.take i ++ l.drop k) i ((l.take k).drop i) ∧ Own rb w w') := by
  obtain ⟨A, cap, B, cap2, hv⟩ := h
  have HV := Go.Lib.hid hv
  have HN := Go.Lib.hid hN
  have HBI := Go.Lib.hid hi
  have hlt := befW_lt l k
  have hle : l.length ≤ cap := hv.r0.le
  have hk0 : 0 < k := by omega
  have e0 : ((k : Int) == 0) = false := by simp; omega
  have c0 := hv.c0
  have c1 := hv.c1
  have f0 := hv.f 0
  have f1 := hv.f 1
  have sz := hv.sz
  have cN := hN.c
  have ltN := hN.lt
  have neN := hN.ne
  have hw0 : IntKind.i64.wrap ((k : Int) - 1) = (k : Int) - 1 := IntWalk.i64_in _ (by omega)
  clear hv hN hi hlt
  go_enter Tryd.func78, Tryd.ntmps78
  go_wp2_with fail
  go_loop [1] (fun x => ∃ z : Nat, x = .int .i64 z ∧ z < k ∧ Hid (befW l k = befW l (z + 1))) (fun x => (intOf x).toNat)
  case atStart => exact ⟨k - 1, congrArg (Value.int .i64) (by omega), by omega, by rw [Hid, show k - 1 + 1 = k by omega]⟩
  case round =>
    obtain ⟨m, rfl, hz2, HR⟩ := hrel
    have hR := HR.out
    rw [show befW l (m + 1) = if begB l m then (m : Int) else befW l m from rfl] at hR
    by_cases hm0 : 0 < m
    · have hml : m < l.length := by omega
      rw [begB_eq l m hm0 hml] at hR
      obtain ⟨g, rfl, hg, cg⟩ := buf_nth HV.out m hml
      obtain ⟨g', hgg, _, cg'⟩ := buf_nth HV.out (m - 1) (by omega)
      cases hgg
      have HI := Go.Lib.hid fun w => isbreak_any (nth l m) w
      have HM := Go.Lib.hid fun w => isbreak_any (nth l (m - 1)) w
      obtain ⟨m1, hm1⟩ : ∃ m1, m1 = m - 1 := ⟨_, rfl⟩
      rw [← hm1] at hR cg' HM
      have hw : IntKind.i64.wrap ((m : Int) - 1) = (m1 : Nat) := by rw [IntWalk.i64_in _ (by omega)]; omega
      have hb0 : (0 : Int) < m := by omega
      have hb1 : (m : Int) < l.length := by omega
      have hb2 : (0 : Int) ≤ m1 := by omega
      have hb3 : (m1 : Int) < l.length := by omega
      generalize nth l m = x at cg HI hR
      generalize nth l m1 = y at cg' HM hR
      generalize isW x = p at HI hR
      generalize isW y = q at HM hR
      have HR2 := Go.Lib.hid hR
      have HM1 := Go.Lib.hid hm1
      clear hR hm1
      cases p
      · go_wp2_with fail
        refine (HI.out _).mono ?_
        rintro e w1 ⟨rfl, rfl⟩
        go_wp2_with fail
        go_round
        case rel => exact ⟨m1, by go_num, by have := HM1.out; omega, by rw [Hid]; refine HR2.out.trans ?_; rw [show m1 + 1 = m by have := HM1.out; omega]; rfl⟩
        case measure => have := HM1.out; simp [intOf]; omega
      · cases q
        · have hmi : m = i := by
            have h1 := HR2.out
            have h2 := HBI.out
            rw [h2] at h1
            have h3 : (i : Int) = m := h1
            omega
          have HMI := Go.Lib.hid hmi
          clear hmi
          have hs1 := mid_run (some ⟨g, 0, none⟩) l.length cap m k (by omega) (by omega)
          have hs2 := up_run (some ⟨g, 0, none⟩) l.length cap m (by omega)
          have hs3 := from_run (some ⟨g, 0, none⟩) l.length cap k hk
          go_wp2_with fail
          refine (HI.out _).mono ?_
          rintro e w1 ⟨rfl, rfl⟩
          go_wp2_with fail
          refine (HM.out _).mono ?_
          rintro e w1 ⟨rfl, rfl⟩
          go_wp2_with fail
          refine region_quiet_tail 11 (by kernel_rfl) (by kernel_rfl) ?_
          simp only [List.take_succ_cons, List.take_zero, List.drop_succ_cons, List.drop_zero]
          repeat (go_big_quiet_step (fail))
          refine wpQuiet_nil ?_
          intro _ hw'
          obtain ⟨nq, hw''⟩ := hw'
          subst hw''
          have HV1 : Hid (RBv (w.drewN nq) rb l k kept (some ⟨g, 0, none⟩) cap B cap2) := HV.out.below (below_drewN (Below.refl _ _) _)
          have HSRC := Go.Lib.hid (row_src HV1.out.r0 m k (by omega) hk)
          go_wp2_with fail
          refine (push_kill HV1.out _ _ _ _ HSRC.out (by simp; omega)).mono ?_
          rintro e w1 ⟨rfl, ⟨B', cap', h1⟩, o1⟩
          have H1 := Go.Lib.hid h1
          have O1 : Hid (Own rb w w1) := ((Own.refl rb w).drewN nq).trans o1
          have HN1 : Hid (Cap w1 rb N) := HN.out.own O1.out
          clear h1 o1 c0 c1 cN cg cg'
          have c0 := H1.out.c0
          have c1 := H1.out.c1
          have cN := HN1.out.c
          have f0 := H1.out.f 0
          have f1 := H1.out.f 1
          have sz1 := H1.out.sz
          obtain ⟨l', hl'⟩ : ∃ l', l' = l.take m ++ l.drop k := ⟨_, rfl⟩
          obtain ⟨A', cap3, w', hrun, hR, hO, hcell, hfro, hO2⟩ := cut_run (H1.out.below (Below.refl _ _).drew) m k (by omega) hk hl l' hl'
          have cN2 := ((HN1.out.own (Own.refl rb w1).drew).own hO2).c
          have cN3 := ((HN1.out.own (Own.refl rb w1).drew).own hO).c
          have HR3 := Go.Lib.hid hR
          have HO : Hid (Own rb w (w'.setCell ⟨rb, 0, none⟩ (.slice A' l'.length cap3))) := O1.out.drew.trans hO
          have q0 := (hcell 0).trans H1.out.c0
          have q1 := (hcell 1).trans H1.out.c1
          have g0 := (hfro 0).trans (H1.out.f 0)
          have r1 := hR.c1
          have fr1 := hR.f 1
          have HL' := Go.Lib.hid hl'
          have HRUN := Go.Lib.hid hrun
          obtain ⟨n', hn'⟩ : ∃ n', n' = l'.length := ⟨_, rfl⟩
          rw [← hn'] at HRUN HR3 HO cN3 r1 fr1
          clear hR hO hO2 hcell hfro hl' hrun hn'
          go_wp2_with fail
          refine region_held_tail 17 (S := (fun w' => w'.cell? ⟨N, 0, none⟩ = some (.pointer (some ⟨rb, 0, none⟩)) ∧ w'.cell? ⟨rb, 0, none⟩ = some (.slice (some ⟨g, 0, none⟩) l.length cap) ∧ w'.cell? ⟨rb, 1, none⟩ = some (.int .i64 (k : Nat)))) (by kernel_rfl) (by kernel_rfl) ?_ (fun hHeld => ?_)
          · (try dsimp only); first | done | (first | exact ⟨cN, c0, c1⟩ | exact ⟨cN2, q0, q1⟩)
          refine HeldT.take (i := 0) (v := ?_) (by simp only [List.getElem?_toArray, List.getElem?_cons_succ, List.getElem?_cons_zero]; rfl) (by kernel_rfl) (by kernel_rfl) (by kernel_rfl) (by kernel_rfl) (by exact fun _ _ _ h => h) ?_ (by assumption) ?_
          rotate_left
          · refine Or.inl ⟨by rfl, ?_⟩
            (intro w hSw; (try dsimp only at hSw); go_simp; try with_reducible rfl)
          try simp only [Act.put, List.setIfInBounds_toArray, List.set_cons_zero, List.set_cons_succ]
          refine HeldT.take (i := 1) (v := ?_) (by simp only [List.getElem?_toArray, List.getElem?_cons_succ, List.getElem?_cons_zero]; rfl) (by kernel_rfl) (by kernel_rfl) (by kernel_rfl) (by kernel_rfl) (by exact fun _ _ _ h => h) ?_ (by assumption) ?_
          rotate_left
          · refine Or.inl ⟨by rfl, ?_⟩
            (intro w hSw; (try dsimp only at hSw); go_simp; try with_reducible rfl)
          try simp only [Act.put, List.setIfInBounds_toArray, List.set_cons_zero, List.set_cons_succ]
          refine HeldT.take (i := 2) (v := ?_) (by simp only [List.getElem?_toArray, List.getElem?_cons_succ, List.getElem?_cons_zero]; rfl) (by kernel_rfl) (by kernel_rfl) (by kernel_rfl) (by kernel_rfl) (by exact fun _ _ _ h => h) ?_ (by assumption) ?_
          rotate_left
          · refine Or.inl ⟨by rfl, ?_⟩
            (intro w hSw; (try dsimp only at hSw); go_simp; try with_reducible rfl)
          try simp only [Act.put, List.setIfInBounds_toArray, List.set_cons_zero, List.set_cons_succ]
          refine HeldT.take (i := 3) (v := ?_) (by simp only [List.getElem?_toArray, List.getElem?_cons_succ, List.getElem?_cons_zero]; rfl) (by kernel_rfl) (by kernel_rfl) (by kernel_rfl) (by kernel_rfl) (by exact fun _ _ _ h => h) ?_ (by assumption) ?_
          rotate_left
          · refine Or.inl ⟨by rfl, ?_⟩
            (intro w hSw; (try dsimp only at hSw); go_simp; try with_reducible rfl)
          try simp only [Act.put, List.setIfInBounds_toArray, List.set_cons_zero, List.set_cons_succ]
          refine HeldT.take (i := 4) (v := ?_) (by simp only [List.getElem?_toArray, List.getElem?_cons_succ, List.getElem?_cons_zero]; rfl) (by kernel_rfl) (by kernel_rfl) (by kernel_rfl) (by kernel_rfl) (by exact fun _ _ _ h => h) ?_ (by assumption) ?_
          rotate_left
          · refine Or.inl ⟨by rfl, ?_⟩
            (intro w hSw; (try dsimp only at hSw); go_simp; try with_reducible rfl)
          try simp only [Act.put, List.setIfInBounds_toArray, List.set_cons_zero, List.set_cons_succ]
          refine HeldT.take (i := 5) (v := ?_) (by simp only [List.getElem?_toArray, List.getElem?_cons_succ, List.getElem?_cons_zero]; rfl) (by kernel_rfl) (by kernel_rfl) (by kernel_rfl) (by kernel_rfl) (by exact fun _ _ _ h => h) ?_ (by assumption) ?_
          rotate_left
          · refine Or.inl ⟨by rfl, ?_⟩
            (intro w hSw; (try dsimp only at hSw); go_simp; try with_reducible rfl)
          try simp only [Act.put, List.setIfInBounds_toArray, List.set_cons_zero, List.set_cons_succ]
          refine HeldT.take (i := 6) (v := ?_) (by simp only [List.getElem?_toArray, List.getElem?_cons_succ, List.getElem?_cons_zero]; rfl) (by kernel_rfl) (by kernel_rfl) (by kernel_rfl) (by kernel_rfl) (by exact fun _ _ _ h => h) ?_ (by assumption) ?_
          rotate_left
          · refine Or.inl ⟨by rfl, ?_⟩
            (intro w hSw; (try dsimp only at hSw); go_simp; try with_reducible rfl)
          try simp only [Act.put, List.setIfInBounds_toArray, List.set_cons_zero, List.set_cons_succ]
          refine HeldT.take (i := 7) (v := ?_) (by simp only [List.getElem?_toArray, List.getElem?_cons_succ, List.getElem?_cons_zero]; rfl) (by kernel_rfl) (by kernel_rfl) (by kernel_rfl) (by kernel_rfl) (by exact fun _ _ _ h => h) ?_ (by assumption) ?_
          rotate_left
          · refine Or.inl ⟨by rfl, ?_⟩
            (intro w hSw; (try dsimp only at hSw); go_simp; try with_reducible rfl)
          try simp only [Act.put, List.setIfInBounds_toArray, List.set_cons_zero, List.set_cons_succ]
          refine HeldT.take (i := 8) (v := ?_) (by simp only [List.getElem?_toArray, List.getElem?_cons_succ, List.getElem?_cons_zero]; rfl) (by kernel_rfl) (by kernel_rfl) (by kernel_rfl) (by kernel_rfl) (by exact fun _ _ _ h => h) ?_ (by assumption) ?_
          rotate_left
          · refine Or.inl ⟨by rfl, ?_⟩
            (intro w hSw; (try dsimp only at hSw); go_simp; try with_reducible rfl)
          try simp only [Act.put, List.setIfInBounds_toArray, List.set_cons_zero, List.set_cons_succ]
          refine HeldT.take (i := 9) (v := ?_) (by simp only [List.getElem?_toArray, List.getElem?_cons_succ, List.getElem?_cons_zero]; rfl) (by kernel_rfl) (by kernel_rfl) (by kernel_rfl) (by kernel_rfl) (by exact fun _ _ _ h => h) ?_ (by assumption) ?_
          rotate_left
          · refine Or.inl ⟨by rfl, ?_⟩
            (intro w hSw; (try dsimp only at hSw); go_simp; try with_reducible rfl)
          try simp only [Act.put, List.setIfInBounds_toArray, List.set_cons_zero, List.set_cons_succ]
          refine HeldT.take (i := 10) (v := ?_) (by simp only [List.getElem?_toArray, List.getElem?_cons_succ, List.getElem?_cons_zero]; rfl) (by kernel_rfl) (by kernel_rfl) (by kernel_rfl) (by kernel_rfl) (by exact fun _ _ _ h => h) ?_ (by assumption) ?_
          rotate_left
          · refine Or.inl ⟨by rfl, ?_⟩
            (intro w hSw; (try dsimp only at hSw); go_simp; try with_reducible rfl)
          try simp only [Act.put, List.setIfInBounds_toArray, List.set_cons_zero, List.set_cons_succ]
          refine HeldT.take (i := 11) (v := ?_) (by simp only [List.getElem?_toArray, List.getElem?_cons_succ, List.getElem?_cons_zero]; rfl) (by kernel_rfl) (by kernel_rfl) (by kernel_rfl) (by kernel_rfl) (by exact fun _ _ _ h => h) ?_ (by assumption) ?_
          rotate_left
          · refine Or.inl ⟨by rfl, ?_⟩
            (intro w hSw; (try dsimp only at hSw); go_simp; try with_reducible rfl)
          try simp only [Act.put, List.setIfInBounds_toArray, List.set_cons_zero, List.set_cons_succ]
          refine HeldT.take (i := 12) (v := ?_) (by simp only [List.getElem?_toArray, List.getElem?_cons_succ, List.getElem?_cons_zero]; rfl) (by kernel_rfl) (by kernel_rfl) (by kernel_rfl) (by kernel_rfl) (by exact fun _ _ _ h => h) ?_ (by assumption) ?_
          rotate_left
          · refine Or.inl ⟨by rfl, ?_⟩
            (intro w hSw; (try dsimp only at hSw); go_simp; try with_reducible rfl)
          try simp only [Act.put, List.setIfInBounds_toArray, List.set_cons_zero, List.set_cons_succ]
          refine HeldT.take (i := 13) (v := ?_) (by simp only [List.getElem?_toArray, List.getElem?_cons_succ, List.getElem?_cons_zero]; rfl) (by kernel_rfl) (by kernel_rfl) (by kernel_rfl) (by kernel_rfl) (by exact fun _ _ _ h => h) ?_ (by assumption) ?_
          rotate_left
          · refine Or.inl ⟨by rfl, ?_⟩
            (intro w hSw; (try dsimp only at hSw); go_simp; try with_reducible rfl)
          try simp only [Act.put, List.setIfInBounds_toArray, List.set_cons_zero, List.set_cons_succ]
          refine HeldT.take (i := 14) (v := ?_) (by simp only [List.getElem?_toArray, List.getElem?_cons_succ, List.getElem?_cons_zero]; rfl) (by kernel_rfl) (by kernel_rfl) (by kernel_rfl) (by kernel_rfl) (by exact fun _ _ _ h => h) ?_ (by assumption) ?_
          rotate_left
          · refine Or.inl ⟨by rfl, ?_⟩
            (intro w hSw; (try dsimp only at hSw); go_simp; try with_reducible rfl)
          try simp only [Act.put, List.setIfInBounds_toArray, List.set_cons_zero, List.set_cons_succ]
          refine HeldT.take (i := 15) (v := ?_) (by simp only [List.getElem?_toArray, List.getElem?_cons_succ, List.getElem?_cons_zero]; rfl) (by kernel_rfl) (by kernel_rfl) (by kernel_rfl) (by kernel_rfl) (by exact fun _ _ _ h => h) ?_ (by assumption) ?_
          rotate_left
          · refine Or.inl ⟨by rfl, ?_⟩
            (intro w hSw; (try dsimp only at hSw); go_simp; try with_reducible rfl)
          try simp only [Act.put, List.setIfInBounds_toArray, List.set_cons_zero, List.set_cons_succ]
          refine HeldT.one (i := 16) (by simp only [List.getElem?_toArray, List.getElem?_cons_succ, List.getElem?_cons_zero]; rfl) (by kernel_rfl) (by kernel_rfl) (fun K hK => ?_)
          (refine step_append_run (by rfl) _ _ _ (by rfl) _ _ _ (by rfl) (by rfl) HRUN.out ?_)
          refine hK.out _ _ ?_ (fun hHeld => ?_)
          · (try dsimp only); first | done | (first | exact ⟨cN, c0, c1⟩ | exact ⟨cN2, q0, q1⟩)
          clear hK K
          try simp only [Act.put, List.setIfInBounds_toArray, List.set_cons_zero, List.set_cons_succ]
          refine HeldT.tail (by kernel_rfl) rfl ?_
          go_wp2_with fail
          go_returns
          refine ⟨rfl, ?_, HO.out.set _ _⟩
          rw [← HMI.out, ← HL'.out]
          exact ⟨_, _, _, _, HR3.out.idx m⟩
        · go_wp2_with fail
          refine (HI.out _).mono ?_
          rintro e w1 ⟨rfl, rfl⟩
          go_wp2_with fail
          refine (HM.out _).mono ?_
          rintro e w1 ⟨rfl, rfl⟩
          go_wp2_with fail
          go_round
          case rel => exact ⟨m1, by go_num, by have := HM1.out; omega, by rw [Hid]; refine HR2.out.trans ?_; rw [show m1 + 1 = m by have := HM1.out; omega]; rfl⟩
          case measure => have := HM1.out; simp [intOf]; omega
    · exfalso
      obtain rfl : m = 0 := by omega
      rw [begB_zero, HBI.out] at hR
      have h3 : (i : Int) = befW l 0 := hR
      unfold befW at h3
      omega

set_option maxRecDepth 100000 in
set_option maxHeartbeats 2000000 in
theorem delword_cl (rb N I : Nat) (l : List Int) (k : Nat) (kept : List Int) (m : Nat) (w : World) (h : RB w rb l k kept) (hN : Cap w rb N) (cI : w.cell? ⟨I, 0, none⟩ = some (.int .i64 ((m + 1 : Nat) : Int))) (lI : I < w.heap.size) (nI : I ≠ rb) (niI : ¬ I32 w I) (hk : k ≤ m) (hm : m ≤ l.length) (hl : l.length ≤ 100000) :
    Calls Tryd.prog 77 #[.pointer (some ⟨N, 0, none⟩), .pointer (some ⟨I, 0, none⟩)] w fun e w' => e = .returned (.tuple #[]) ∧ (RB w' rb (l.take k ++ l.drop m) k kept ∧ Own rb w w') := by
  obtain ⟨A, cap, B, cap2, hv⟩ := h
  have hle : l.length ≤ cap := hv.r0.le
  have hs2 := up_run A l.length cap k (by omega)
  have hs3 := from_run A l.length cap m hm
  have hw : IntKind.i64.wrap (((m + 1 : Nat) : Int) - 1) = (m : Nat) := by rw [IntWalk.i64_in _ (by omega)]; omega
  obtain ⟨m', hm'⟩ : ∃ m', m' = m + 1 := ⟨_, rfl⟩
  rw [← hm'] at cI hw
  have hvD := hv.below (Below.refl w.heap.size w).drew
  obtain ⟨l', hl'⟩ : ∃ l', l' = l.take k ++ l.drop m := ⟨_, rfl⟩
  obtain ⟨A', cap3, w', hrun, hR, hO, hcell, hfro, hO2⟩ := cut_run hvD k m (by omega) hm hl l' hl'
  have cN := hN.c
  have c0 := hv.c0
  have c1 := hv.c1
  have cN2 := ((hN.own (Own.refl rb w).drew).own hO2).c
  have cI2 : w'.cell? ⟨I, 0, none⟩ = some (.int .i64 (m' : Nat)) := (World.cell?_of_block (w := w) (((Own.refl rb w).drew.trans hO2).rest I lI nI (.inr niI))).trans cI
  have q0 := (hcell 0).trans hvD.c0
  have q1 := (hcell 1).trans hvD.c1
  have g0 := (hfro 0).trans (hvD.f 0)
  have HR3 := Go.Lib.hid hR
  have HO := Go.Lib.hid ((Own.refl rb w).drew.trans hO)
  have HL' := Go.Lib.hid hl'
  have HRUN := Go.Lib.hid hrun
  rw [← hl']
  obtain ⟨n', hn'⟩ : ∃ n', n' = l'.length := ⟨_, rfl⟩
  rw [← hn'] at HRUN HR3 HO
  have ltN := hN.lt
  have neN := hN.ne
  clear hv hvD hR hO hO2 hcell hfro hl' hrun hn' hm' hN
  go_enter Tryd.func77, Tryd.ntmps77
  go_wp2_with fail
  refine region_held_tail 18 (S := (fun w' => w'.cell? ⟨N, 0, none⟩ = some (.pointer (some ⟨rb, 0, none⟩)) ∧ w'.cell? ⟨rb, 0, none⟩ = some (.slice A l.length cap) ∧ w'.cell? ⟨rb, 1, none⟩ = some (.int .i64 (k : Nat)) ∧ w'.cell? ⟨I, 0, none⟩ = some (.int .i64 (m' : Nat)))) (by kernel_rfl) (by kernel_rfl) ?_ (fun hHeld => ?_)
  · (try dsimp only); first | done | (first | exact ⟨cN, c0, c1, cI⟩ | exact ⟨cN2, q0, q1, cI2⟩)
  refine HeldT.take (i := 0) (v := ?_) (by simp only [List.getElem?_toArray, List.getElem?_cons_succ, List.getElem?_cons_zero]; rfl) (by kernel_rfl) (by kernel_rfl) (by kernel_rfl) (by kernel_rfl) (by exact fun _ _ _ h => h) ?_ (by assumption) ?_
  rotate_left
  · refine Or.inl ⟨by rfl, ?_⟩
    (intro w hSw; (try dsimp only at hSw); go_simp; try with_reducible rfl)
  try simp only [Act.put, List.setIfInBounds_toArray, List.set_cons_zero, List.set_cons_succ]
  refine HeldT.take (i := 1) (v := ?_) (by simp only [List.getElem?_toArray, List.getElem?_cons_succ, List.getElem?_cons_zero]; rfl) (by kernel_rfl) (by kernel_rfl) (by kernel_rfl) (by kernel_rfl) (by exact fun _ _ _ h => h) ?_ (by assumption) ?_
  rotate_left
  · refine Or.inl ⟨by rfl, ?_⟩
    (intro w hSw; (try dsimp only at hSw); go_simp; try with_reducible rfl)
  try simp only [Act.put, List.setIfInBounds_toArray, List.set_cons_zero, List.set_cons_succ]
  refine HeldT.take (i := 2) (v := ?_) (by simp only [List.getElem?_toArray, List.getElem?_cons_succ, List.getElem?_cons_zero]; rfl) (by kernel_rfl) (by kernel_rfl) (by kernel_rfl) (by kernel_rfl) (by exact fun _ _ _ h => h) ?_ (by assumption) ?_
  rotate_left
  · refine Or.inl ⟨by rfl, ?_⟩
    (intro w hSw; (try dsimp only at hSw); go_simp; try with_reducible rfl)
  try simp only [Act.put, List.setIfInBounds_toArray, List.set_cons_zero, List.set_cons_succ]
  refine HeldT.take (i := 3) (v := ?_) (by simp only [List.getElem?_toArray, List.getElem?_cons_succ, List.getElem?_cons_zero]; rfl) (by kernel_rfl) (by kernel_rfl) (by kernel_rfl) (by kernel_rfl) (by exact fun _ _ _ h => h) ?_ (by assumption) ?_
  rotate_left
  · refine Or.inl ⟨by rfl, ?_⟩
    (intro w hSw; (try dsimp only at hSw); go_simp; try with_reducible rfl)
  try simp only [Act.put, List.setIfInBounds_toArray, List.set_cons_zero, List.set_cons_succ]
  refine HeldT.take (i := 4) (v := ?_) (by simp only [List.getElem?_toArray, List.getElem?_cons_succ, List.getElem?_cons_zero]; rfl) (by kernel_rfl) (by kernel_rfl) (by kernel_rfl) (by kernel_rfl) (by exact fun _ _ _ h => h) ?_ (by assumption) ?_
  rotate_left
  · refine Or.inl ⟨by rfl, ?_⟩
    (intro w hSw; (try dsimp only at hSw); go_simp; try with_reducible rfl)
  try simp only [Act.put, List.setIfInBounds_toArray, List.set_cons_zero, List.set_cons_succ]
  refine HeldT.take (i := 5) (v := ?_) (by simp only [List.getElem?_toArray, List.getElem?_cons_succ, List.getElem?_cons_zero]; rfl) (by kernel_rfl) (by kernel_rfl) (by kernel_rfl) (by kernel_rfl) (by exact fun _ _ _ h => h) ?_ (by assumption) ?_
  rotate_left
  · refine Or.inl ⟨by rfl, ?_⟩
    (intro w hSw; (try dsimp only at hSw); go_simp; try with_reducible rfl)
  try simp only [Act.put, List.setIfInBounds_toArray, List.set_cons_zero, List.set_cons_succ]
  refine HeldT.take (i := 6) (v := ?_) (by simp only [List.getElem?_toArray, List.getElem?_cons_succ, List.getElem?_cons_zero]; rfl) (by kernel_rfl) (by kernel_rfl) (by kernel_rfl) (by kernel_rfl) (by exact fun _ _ _ h => h) ?_ (by assumption) ?_
  rotate_left
  · refine Or.inl ⟨by rfl, ?_⟩
    (intro w hSw; (try dsimp only at hSw); go_simp; try with_reducible rfl)
  try simp only [Act.put, List.setIfInBounds_toArray, List.set_cons_zero, List.set_cons_succ]
  refine HeldT.take (i := 7) (v := ?_) (by simp only [List.getElem?_toArray, List.getElem?_cons_succ, List.getElem?_cons_zero]; rfl) (by kernel_rfl) (by kernel_rfl) (by kernel_rfl) (by kernel_rfl) (by exact fun _ _ _ h => h) ?_ (by assumption) ?_
  rotate_left
  · refine Or.inl ⟨by rfl, ?_⟩
    (intro w hSw; (try dsimp only at hSw); go_simp; try with_reducible rfl)
  try simp only [Act.put, List.setIfInBounds_toArray, List.set_cons_zero, List.set_cons_succ]
  refine HeldT.take (i := 8) (v := ?_) (by simp only [List.getElem?_toArray, List.getElem?_cons_succ, List.getElem?_cons_zero]; rfl) (by kernel_rfl) (by kernel_rfl) (by kernel_rfl) (by kernel_rfl) (by exact fun _ _ _ h => h) ?_ (by assumption) ?_
  rotate_left
  · refine Or.inl ⟨by rfl, ?_⟩
    (intro w hSw; (try dsimp only at hSw); go_simp; try with_reducible rfl)
  try simp only [Act.put, List.setIfInBounds_toArray, List.set_cons_zero, List.set_cons_succ]
  refine HeldT.take (i := 9) (v := ?_) (by simp only [List.getElem?_toArray, List.getElem?_cons_succ, List.getElem?_cons_zero]; rfl) (by kernel_rfl) (by kernel_rfl) (by kernel_rfl) (by kernel_rfl) (by exact fun _ _ _ h => h) ?_ (by assumption) ?_
  rotate_left
  · refine Or.inl ⟨by rfl, ?_⟩
    (intro w hSw; (try dsimp only at hSw); go_simp; try with_reducible rfl)
  try simp only [Act.put, List.setIfInBounds_toArray, List.set_cons_zero, List.set_cons_succ]
  refine HeldT.take (i := 10) (v := ?_) (by simp only [List.getElem?_toArray, List.getElem?_cons_succ, List.getElem?_cons_zero]; rfl) (by kernel_rfl) (by kernel_rfl) (by kernel_rfl) (by kernel_rfl) (by exact fun _ _ _ h => h) ?_ (by assumption) ?_
  rotate_left
  · refine Or.inl ⟨by rfl, ?_⟩
    (intro w hSw; (try dsimp only at hSw); go_simp; try with_reducible rfl)
  try simp only [Act.put, List.setIfInBounds_toArray, List.set_cons_zero, List.set_cons_succ]
  refine HeldT.take (i := 11) (v := ?_) (by simp only [List.getElem?_toArray, List.getElem?_cons_succ, List.getElem?_cons_zero]; rfl) (by kernel_rfl) (by kernel_rfl) (by kernel_rfl) (by kernel_rfl) (by exact fun _ _ _ h => h) ?_ (by assumption) ?_
  rotate_left
  · refine Or.inl ⟨by rfl, ?_⟩
    (intro w hSw; (try dsimp only at hSw); go_simp; try with_reducible rfl)
  try simp only [Act.put, List.setIfInBounds_toArray, List.set_cons_zero, List.set_cons_succ]
  refine HeldT.take (i := 12) (v := ?_) (by simp only [List.getElem?_toArray, List.getElem?_cons_succ, List.getElem?_cons_zero]; rfl) (by kernel_rfl) (by kernel_rfl) (by kernel_rfl) (by kernel_rfl) (by exact fun _ _ _ h => h) ?_ (by assumption) ?_
  rotate_left
  · refine Or.inl ⟨by rfl, ?_⟩
    (intro w hSw; (try dsimp only at hSw); go_simp; try with_reducible rfl)
  try simp only [Act.put, List.setIfInBounds_toArray, List.set_cons_zero, List.set_cons_succ]
  refine HeldT.take (i := 13) (v := ?_) (by simp only [List.getElem?_toArray, List.getElem?_cons_succ, List.getElem?_cons_zero]; rfl) (by kernel_rfl) (by kernel_rfl) (by kernel_rfl) (by kernel_rfl) (by exact fun _ _ _ h => h) ?_ (by assumption) ?_
  rotate_left
  · refine Or.inl ⟨by rfl, ?_⟩
    (intro w hSw; (try dsimp only at hSw); go_simp; try with_reducible rfl)
  try simp only [Act.put, List.setIfInBounds_toArray, List.set_cons_zero, List.set_cons_succ]
  refine HeldT.take (i := 14) (v := ?_) (by simp only [List.getElem?_toArray, List.getElem?_cons_succ, List.getElem?_cons_zero]; rfl) (by kernel_rfl) (by kernel_rfl) (by kernel_rfl) (by kernel_rfl) (by exact fun _ _ _ h => h) ?_ (by assumption) ?_
  rotate_left
  · refine Or.inl ⟨by rfl, ?_⟩
    (intro w hSw; (try dsimp only at hSw); go_simp; try with_reducible rfl)
  try simp only [Act.put, List.setIfInBounds_toArray, List.set_cons_zero, List.set_cons_succ]
  refine HeldT.take (i := 15) (v := ?_) (by simp only [List.getElem?_toArray, List.getElem?_cons_succ, List.getElem?_cons_zero]; rfl) (by kernel_rfl) (by kernel_rfl) (by kernel_rfl) (by kernel_rfl) (by exact fun _ _ _ h => h) ?_ (by assumption) ?_
  rotate_left
  · refine Or.inl ⟨by rfl, ?_⟩
    (intro w hSw; (try dsimp only at hSw); go_simp; try with_reducible rfl)
  try simp only [Act.put, List.setIfInBounds_toArray, List.set_cons_zero, List.set_cons_succ]
  refine HeldT.take (i := 16) (v := ?_) (by simp only [List.getElem?_toArray, List.getElem?_cons_succ, List.getElem?_cons_zero]; rfl) (by kernel_rfl) (by kernel_rfl) (by kernel_rfl) (by kernel_rfl) (by exact fun _ _ _ h => h) ?_ (by assumption) ?_
  rotate_left
  · refine Or.inl ⟨by rfl, ?_⟩
    (intro w hSw; (try dsimp only at hSw); go_simp; try with_reducible rfl)
  try simp only [Act.put, List.setIfInBounds_toArray, List.set_cons_zero, List.set_cons_succ]
  refine HeldT.one (i := 17) (by simp only [List.getElem?_toArray, List.getElem?_cons_succ, List.getElem?_cons_zero]; rfl) (by kernel_rfl) (by kernel_rfl) (fun K hK => ?_)
  (refine step_append_run (by rfl) _ _ _ (by rfl) _ _ _ (by rfl) (by rfl) HRUN.out ?_)
  refine hK.out _ _ ?_ (fun hHeld => ?_)
  · (try dsimp only); first | done | (first | exact ⟨cN, c0, c1, cI⟩ | exact ⟨cN2, q0, q1, cI2⟩)
  clear hK K
  try simp only [Act.put, List.setIfInBounds_toArray, List.set_cons_zero, List.set_cons_succ]
  refine HeldT.tail (by kernel_rfl) rfl ?_
  go_wp2_with fail
  go_returns
  exact ⟨rfl, ⟨_, _, _, _, HR3.out⟩, HO.out⟩
end Go.Proofs.YtoimdbmjpkmkfaaDoor
