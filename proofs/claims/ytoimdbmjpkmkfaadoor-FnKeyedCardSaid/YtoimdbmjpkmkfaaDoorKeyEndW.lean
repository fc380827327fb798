/- RuneBuffer.MoveToEndWord, impl.keyed at it (printed by wip/gen/mkkeyend.py). -/
import Derived.Test.YtoimdbmjpkmkfaaDoorKeyPrev2
import Derived.Test.YtoimdbmjpkmkfaaDoorEdEnd
namespace Go.Proofs.YtoimdbmjpkmkfaaDoor
open Go.RowKit
set_option linter.unusedVariables false
set_option linter.unusedSimpArgs false

set_option maxRecDepth 100000 in
set_option maxHeartbeats 8000000 in
theorem endw_cl (rb N : Nat) (l : List Int) (k : Nat) (kept : List Int) (w : World) (h : RB w rb l k kept) (hN : Cap w rb N) (hk : k < l.length) (hl : l.length ≤ 100000) (hok : k + 1 < l.length ∨ isW (nth l k) = false) :
    Calls Tryd.prog 76 #[.pointer (some ⟨N, 0, none⟩)] w fun e w' => e = .returned (.tuple #[]) ∧ (RB w' rb l (endTo l k) kept ∧ Own rb w w') := by
  obtain ⟨A, cap, B, cap2, hv⟩ := h
  obtain ⟨g, rfl, hgr, ck⟩ := buf_nth hv k hk
  have HV := Go.Lib.hid hv
  have HN := Go.Lib.hid hN
  have e0 : ((k : Int) == (l.length : Int)) = false := by rw [beq_eq_false_iff_ne]; omega
  have hkb : (k : Int) < l.length := by omega
  have c0 := hv.c0
  have c1 := hv.c1
  have f1 := hv.f 1
  have sz := hv.sz
  have cN := hN.c
  clear hv hN
  go_enter Tryd.func76, Tryd.ntmps76
  go_wp2_with fail
  go_quiet (fail)
  obtain ⟨wq, hwq⟩ : ∃ wq, wq = w.drewN nq := ⟨_, rfl⟩
  have VQ : Hid (RBv wq rb l k kept (some ⟨g, 0, none⟩) cap B cap2) := hwq ▸ HV.out.below (below_drewN (Below.refl _ _) _)
  have OQ : Hid (Own rb w wq) := hwq ▸ (Own.refl _ _).drewN _
  rw [← hwq]
  have CQ : Hid (Cap wq rb N) := HN.out.own OQ.out
  clear hwq c0 c1 cN f1 sz ck
  have c0 := VQ.out.c0
  have c1 := VQ.out.c1
  have f1 := VQ.out.f 1
  have sz := VQ.out.sz
  have cN := CQ.out.c
  obtain ⟨g2, hg2, _, ck⟩ := buf_nth VQ.out k hk
  cases hg2
  have HI := Go.Lib.hid fun w => isbreak_any (nth l k) w
  have HEB : Hid (endB l k = (decide (k + 1 < l.length) && (isW (nth l k) && !isW (nth l (k + 1))))) := rfl
  obtain ⟨x, hx⟩ : ∃ x, x = nth l k := ⟨_, rfl⟩
  rw [← hx] at ck HI HEB hok
  clear hx
  go_wp2_with fail
  by_cases hp : isW x = true
  · rw [hp] at HI HEB
    have hk1 : k + 1 < l.length := hok.resolve_right (by rw [hp]; decide)
    obtain ⟨k1, hk1'⟩ : ∃ k1, k1 = k + 1 := ⟨_, rfl⟩
    have HK1 := Go.Lib.hid hk1'
    rw [← hk1'] at hk1 HEB
    obtain ⟨g3, hg3, _, ck1⟩ := buf_nth VQ.out k1 hk1
    cases hg3
    have HM := Go.Lib.hid fun w => isbreak_any (nth l k1) w
    rw [show decide (k1 < l.length) = true by simpa using hk1, Bool.true_and] at HEB
    have hw : IntKind.i64.wrap ((k : Int) + 1) = (k1 : Nat) := by rw [IntWalk.i64_in _ (by omega)]; omega
    have hk1b : (k1 : Int) < l.length := by omega
    obtain ⟨y, hy⟩ : ∃ y, y = nth l k1 := ⟨_, rfl⟩
    rw [← hy] at ck1 HM HEB
    clear hy hok hp hk1'
    by_cases hq : isW y = true
    · rw [hq] at HM HEB
      have HFR : Hid (endTo l k = endF l k) := by show endTo l k = _; unfold endTo; rw [HEB.out]; rfl
      refine region_held_tail 25 (S := (fun w' => w'.cell? ⟨rb, 0, none⟩ = some (.slice (some ⟨g, 0, none⟩) l.length cap) ∧ w'.cell? ⟨rb, 1, none⟩ = some (.int .i64 (k : Nat)) ∧ w'.cell? ⟨N, 0, none⟩ = some (.pointer (some ⟨rb, 0, none⟩)) ∧ w'.cell? ⟨g, k, none⟩ = some (.int .i32 x) ∧ w'.cell? ⟨g, k1, none⟩ = some (.int .i32 y))) (by kernel_rfl) (by kernel_rfl) ?_ (fun hHeld => ?_)
      · (try dsimp only); first | done | (exact ⟨c0, c1, cN, ck, ck1⟩)
      refine HeldT.take (i := 0) (v := ?_) (by simp only [List.getElem?_toArray, List.getElem?_cons_succ, List.getElem?_cons_zero]; rfl) (by kernel_rfl) (by kernel_rfl) (by kernel_rfl) (by kernel_rfl) (by exact fun _ _ _ h => h) ?_ (by assumption) ?_
      rotate_left
      · refine Or.inl ⟨by rfl, ?_⟩
        (intro w hSw; (try dsimp only at hSw); go_simp; try with_reducible rfl)
      try simp only [Act.put, List.setIfInBounds_toArray, List.set_cons_zero, List.set_cons_succ]
      refine HeldT.take (i := 1) (v := ?_) (by simp only [List.getElem?_toArray, List.getElem?_cons_succ, List.getElem?_cons_zero]; rfl) (by kernel_rfl) (by kernel_rfl) (by kernel_rfl) (by kernel_rfl) (by exact fun _ _ _ h => h) ?_ (by assumption) ?_
      rotate_left
      · refine Or.inl ⟨by rfl, ?_⟩
        (intro w hSw; (try dsimp only at hSw); go_simp; try with_reducible rfl)
      try simp only [Act.put, List.setIfInBounds_toArray, List.set_cons_zero, List.set_cons_succ]
      refine HeldT.take (i := 2) (v := ?_) (by simp only [List.getElem?_toArray, List.getElem?_cons_succ, List.getElem?_cons_zero]; rfl) (by kernel_rfl) (by kernel_rfl) (by kernel_rfl) (by kernel_rfl) (by exact fun _ _ _ h => h) ?_ (by assumption) ?_
      rotate_left
      · refine Or.inl ⟨by rfl, ?_⟩
        (intro w hSw; (try dsimp only at hSw); go_simp; try with_reducible rfl)
      try simp only [Act.put, List.setIfInBounds_toArray, List.set_cons_zero, List.set_cons_succ]
      refine HeldT.take (i := 3) (v := ?_) (by simp only [List.getElem?_toArray, List.getElem?_cons_succ, List.getElem?_cons_zero]; rfl) (by kernel_rfl) (by kernel_rfl) (by kernel_rfl) (by kernel_rfl) (by exact fun _ _ _ h => h) ?_ (by assumption) ?_
      rotate_left
      · refine Or.inl ⟨by rfl, ?_⟩
        (intro w hSw; (try dsimp only at hSw); go_simp; try with_reducible rfl)
      try simp only [Act.put, List.setIfInBounds_toArray, List.set_cons_zero, List.set_cons_succ]
      refine HeldT.take (i := 4) (v := ?_) (by simp only [List.getElem?_toArray, List.getElem?_cons_succ, List.getElem?_cons_zero]; rfl) (by kernel_rfl) (by kernel_rfl) (by kernel_rfl) (by kernel_rfl) (by exact fun _ _ _ h => h) ?_ (by assumption) ?_
      rotate_left
      · refine Or.inl ⟨by rfl, ?_⟩
        (intro w hSw; (try dsimp only at hSw); go_simp; try with_reducible rfl)
      try simp only [Act.put, List.setIfInBounds_toArray, List.set_cons_zero, List.set_cons_succ]
      refine HeldT.take (i := 5) (v := ?_) (by simp only [List.getElem?_toArray, List.getElem?_cons_succ, List.getElem?_cons_zero]; rfl) (by kernel_rfl) (by kernel_rfl) (by kernel_rfl) (by kernel_rfl) (by exact fun _ _ _ h => h) ?_ (by assumption) ?_
      rotate_left
      · refine Or.inl ⟨by rfl, ?_⟩
        (intro w hSw; (try dsimp only at hSw); go_simp; try with_reducible rfl)
      try simp only [Act.put, List.setIfInBounds_toArray, List.set_cons_zero, List.set_cons_succ]
      refine HeldT.take (i := 6) (v := ?_) (by simp only [List.getElem?_toArray, List.getElem?_cons_succ, List.getElem?_cons_zero]; rfl) (by kernel_rfl) (by kernel_rfl) (by kernel_rfl) (by kernel_rfl) (by exact fun _ _ _ h => h) ?_ (by assumption) ?_
      rotate_left
      · refine Or.inl ⟨by rfl, ?_⟩
        (intro w hSw; (try dsimp only at hSw); go_simp; try with_reducible rfl)
      try simp only [Act.put, List.setIfInBounds_toArray, List.set_cons_zero, List.set_cons_succ]
      refine HeldT.take (i := 7) (v := ?_) (by simp only [List.getElem?_toArray, List.getElem?_cons_succ, List.getElem?_cons_zero]; rfl) (by kernel_rfl) (by kernel_rfl) (by kernel_rfl) (by kernel_rfl) (by exact fun _ _ _ h => h) ?_ (by assumption) ?_
      rotate_left
      · refine Or.inl ⟨by rfl, ?_⟩
        (intro w hSw; (try dsimp only at hSw); go_simp; try with_reducible rfl)
      try simp only [Act.put, List.setIfInBounds_toArray, List.set_cons_zero, List.set_cons_succ]
      refine HeldT.take (i := 8) (v := ?_) (by simp only [List.getElem?_toArray, List.getElem?_cons_succ, List.getElem?_cons_zero]; rfl) (by kernel_rfl) (by kernel_rfl) (by kernel_rfl) (by kernel_rfl) (by exact fun _ _ _ h => h) ?_ (by assumption) ?_
      rotate_left
      · refine Or.inl ⟨by rfl, ?_⟩
        (intro w hSw; (try dsimp only at hSw); go_simp; try with_reducible rfl)
      try simp only [Act.put, List.setIfInBounds_toArray, List.set_cons_zero, List.set_cons_succ]
      refine HeldT.take (i := 9) (v := ?_) (by simp only [List.getElem?_toArray, List.getElem?_cons_succ, List.getElem?_cons_zero]; rfl) (by kernel_rfl) (by kernel_rfl) (by kernel_rfl) (by kernel_rfl) (by exact fun _ _ _ h => h) ?_ (by assumption) ?_
      rotate_left
      · refine Or.inl ⟨by rfl, ?_⟩
        (intro w hSw; (try dsimp only at hSw); go_simp; try with_reducible rfl)
      try simp only [Act.put, List.setIfInBounds_toArray, List.set_cons_zero, List.set_cons_succ]
      refine HeldT.one (i := 10) (by simp only [List.getElem?_toArray, List.getElem?_cons_succ, List.getElem?_cons_zero]; rfl) (by kernel_rfl) (by kernel_rfl) (fun K hK => ?_)
      go_simp
      ((refine (HI.out _).mono ?_); rintro e w1 ⟨rfl, rfl⟩)
      try go_wp2_with fail
      refine hK.out _ _ ?_ (fun hHeld => ?_)
      · (try dsimp only); first | done | (exact ⟨c0, c1, cN, ck, ck1⟩)
      clear hK K
      try simp only [Act.put, List.setIfInBounds_toArray, List.set_cons_zero, List.set_cons_succ]
      refine HeldT.take (i := 11) (v := ?_) (by simp only [List.getElem?_toArray, List.getElem?_cons_succ, List.getElem?_cons_zero]; rfl) (by kernel_rfl) (by kernel_rfl) (by kernel_rfl) (by kernel_rfl) (by exact fun _ _ _ h => h) ?_ (by assumption) ?_
      rotate_left
      · refine Or.inl ⟨by rfl, ?_⟩
        (intro w hSw; (try dsimp only at hSw); go_simp; try with_reducible rfl)
      try simp only [Act.put, List.setIfInBounds_toArray, List.set_cons_zero, List.set_cons_succ]
      refine HeldT.take (i := 12) (v := ?_) (by simp only [List.getElem?_toArray, List.getElem?_cons_succ, List.getElem?_cons_zero]; rfl) (by kernel_rfl) (by kernel_rfl) (by kernel_rfl) (by kernel_rfl) (by exact fun _ _ _ h => h) ?_ (by assumption) ?_
      rotate_left
      · refine Or.inl ⟨by rfl, ?_⟩
        (intro w hSw; (try dsimp only at hSw); go_simp; try with_reducible rfl)
      try simp only [Act.put, List.setIfInBounds_toArray, List.set_cons_zero, List.set_cons_succ]
      refine HeldT.take (i := 13) (v := ?_) (by simp only [List.getElem?_toArray, List.getElem?_cons_succ, List.getElem?_cons_zero]; rfl) (by kernel_rfl) (by kernel_rfl) (by kernel_rfl) (by kernel_rfl) (by exact fun _ _ _ h => h) ?_ (by assumption) ?_
      rotate_left
      · refine Or.inl ⟨by rfl, ?_⟩
        (intro w hSw; (try dsimp only at hSw); go_simp; try with_reducible rfl)
      try simp only [Act.put, List.setIfInBounds_toArray, List.set_cons_zero, List.set_cons_succ]
      refine HeldT.take (i := 14) (v := ?_) (by simp only [List.getElem?_toArray, List.getElem?_cons_succ, List.getElem?_cons_zero]; rfl) (by kernel_rfl) (by kernel_rfl) (by kernel_rfl) (by kernel_rfl) (by exact fun _ _ _ h => h) ?_ (by assumption) ?_
      rotate_left
      · refine Or.inl ⟨by rfl, ?_⟩
        (intro w hSw; (try dsimp only at hSw); go_simp; try with_reducible rfl)
      try simp only [Act.put, List.setIfInBounds_toArray, List.set_cons_zero, List.set_cons_succ]
      refine HeldT.take (i := 15) (v := ?_) (by simp only [List.getElem?_toArray, List.getElem?_cons_succ, List.getElem?_cons_zero]; rfl) (by kernel_rfl) (by kernel_rfl) (by kernel_rfl) (by kernel_rfl) (by exact fun _ _ _ h => h) ?_ (by assumption) ?_
      rotate_left
      · refine Or.inl ⟨by rfl, ?_⟩
        (intro w hSw; (try dsimp only at hSw); go_simp; try with_reducible rfl)
      try simp only [Act.put, List.setIfInBounds_toArray, List.set_cons_zero, List.set_cons_succ]
      refine HeldT.take (i := 16) (v := ?_) (by simp only [List.getElem?_toArray, List.getElem?_cons_succ, List.getElem?_cons_zero]; rfl) (by kernel_rfl) (by kernel_rfl) (by kernel_rfl) (by kernel_rfl) (by exact fun _ _ _ h => h) ?_ (by assumption) ?_
      rotate_left
      · refine Or.inl ⟨by rfl, ?_⟩
        (intro w hSw; (try dsimp only at hSw); go_simp; try with_reducible rfl)
      try simp only [Act.put, List.setIfInBounds_toArray, List.set_cons_zero, List.set_cons_succ]
      refine HeldT.take (i := 17) (v := ?_) (by simp only [List.getElem?_toArray, List.getElem?_cons_succ, List.getElem?_cons_zero]; rfl) (by kernel_rfl) (by kernel_rfl) (by kernel_rfl) (by kernel_rfl) (by exact fun _ _ _ h => h) ?_ (by assumption) ?_
      rotate_left
      · refine Or.inl ⟨by rfl, ?_⟩
        (intro w hSw; (try dsimp only at hSw); go_simp; try with_reducible rfl)
      try simp only [Act.put, List.setIfInBounds_toArray, List.set_cons_zero, List.set_cons_succ]
      refine HeldT.take (i := 18) (v := ?_) (by simp only [List.getElem?_toArray, List.getElem?_cons_succ, List.getElem?_cons_zero]; rfl) (by kernel_rfl) (by kernel_rfl) (by kernel_rfl) (by kernel_rfl) (by exact fun _ _ _ h => h) ?_ (by assumption) ?_
      rotate_left
      · refine Or.inl ⟨by rfl, ?_⟩
        (intro w hSw; (try dsimp only at hSw); go_simp; try with_reducible rfl)
      try simp only [Act.put, List.setIfInBounds_toArray, List.set_cons_zero, List.set_cons_succ]
      refine HeldT.take (i := 19) (v := ?_) (by simp only [List.getElem?_toArray, List.getElem?_cons_succ, List.getElem?_cons_zero]; rfl) (by kernel_rfl) (by kernel_rfl) (by kernel_rfl) (by kernel_rfl) (by exact fun _ _ _ h => h) ?_ (by assumption) ?_
      rotate_left
      · refine Or.inl ⟨by rfl, ?_⟩
        (intro w hSw; (try dsimp only at hSw); go_simp; try with_reducible rfl)
      try simp only [Act.put, List.setIfInBounds_toArray, List.set_cons_zero, List.set_cons_succ]
      refine HeldT.take (i := 20) (v := ?_) (by simp only [List.getElem?_toArray, List.getElem?_cons_succ, List.getElem?_cons_zero]; rfl) (by kernel_rfl) (by kernel_rfl) (by kernel_rfl) (by kernel_rfl) (by exact fun _ _ _ h => h) ?_ (by assumption) ?_
      rotate_left
      · refine Or.inl ⟨by rfl, ?_⟩
        (intro w hSw; (try dsimp only at hSw); go_simp; try with_reducible rfl)
      try simp only [Act.put, List.setIfInBounds_toArray, List.set_cons_zero, List.set_cons_succ]
      refine HeldT.take (i := 21) (v := ?_) (by simp only [List.getElem?_toArray, List.getElem?_cons_succ, List.getElem?_cons_zero]; rfl) (by kernel_rfl) (by kernel_rfl) (by kernel_rfl) (by kernel_rfl) (by exact fun _ _ _ h => h) ?_ (by assumption) ?_
      rotate_left
      · refine Or.inl ⟨by rfl, ?_⟩
        (intro w hSw; (try dsimp only at hSw); go_simp; try with_reducible rfl)
      try simp only [Act.put, List.setIfInBounds_toArray, List.set_cons_zero, List.set_cons_succ]
      refine HeldT.take (i := 22) (v := ?_) (by simp only [List.getElem?_toArray, List.getElem?_cons_succ, List.getElem?_cons_zero]; rfl) (by kernel_rfl) (by kernel_rfl) (by kernel_rfl) (by kernel_rfl) (by exact fun _ _ _ h => h) ?_ (by assumption) ?_
      rotate_left
      · refine Or.inl ⟨by rfl, ?_⟩
        (intro w hSw; (try dsimp only at hSw); go_simp; try with_reducible rfl)
      try simp only [Act.put, List.setIfInBounds_toArray, List.set_cons_zero, List.set_cons_succ]
      refine HeldT.take (i := 23) (v := ?_) (by simp only [List.getElem?_toArray, List.getElem?_cons_succ, List.getElem?_cons_zero]; rfl) (by kernel_rfl) (by kernel_rfl) (by kernel_rfl) (by kernel_rfl) (by exact fun _ _ _ h => h) ?_ (by assumption) ?_
      rotate_left
      · refine Or.inl ⟨by rfl, ?_⟩
        (intro w hSw; (try dsimp only at hSw); go_simp; try with_reducible rfl)
      try simp only [Act.put, List.setIfInBounds_toArray, List.set_cons_zero, List.set_cons_succ]
      refine HeldT.one (i := 24) (by simp only [List.getElem?_toArray, List.getElem?_cons_succ, List.getElem?_cons_zero]; rfl) (by kernel_rfl) (by kernel_rfl) (fun K hK => ?_)
      go_simp
      ((refine (HM.out _).mono ?_); rintro e w1 ⟨rfl, rfl⟩)
      try go_wp2_with fail
      refine hK.out _ _ ?_ (fun hHeld => ?_)
      · (try dsimp only); first | done | (exact ⟨c0, c1, cN, ck, ck1⟩)
      clear hK K
      try simp only [Act.put, List.setIfInBounds_toArray, List.set_cons_zero, List.set_cons_succ]
      refine HeldT.tail (by kernel_rfl) rfl ?_
      clear hHeld hq
      obtain ⟨wx, hwx⟩ : ∃ wx, wx = wq.drew := ⟨_, rfl⟩
      have VX : Hid (RBv wx rb l k kept (some ⟨g, 0, none⟩) cap B cap2) := hwx ▸ VQ.out.below (Below.refl _ _).drew
      have OX : Hid (Own rb w wx) := hwx ▸ OQ.out.drew
      have CX : Hid (Cap wx rb N) := HN.out.own OX.out
      rw [← hwx]
      clear hwx c0 c1 cN f1 sz ck ck1 hw
      have a0 := VX.out.c0
      have a1 := VX.out.c1
      have aN := CX.out.c
      have g1 := VX.out.f 1
      have sx := VX.out.sz
      go_wp2_with fail
      go_loop [1] (fun x => ∃ m : Nat, x = .int .i64 ((m + 1 : Nat) : Int) ∧ m ≤ l.length ∧ Hid (endTo l k = endF l m)) (fun x => l.length + 1 - (intOf x).toNat)
      case atStart => exact ⟨k, by go_num, by omega, HFR.out⟩
      case round =>
        obtain ⟨m, rfl, hm, HF⟩ := hrel
        obtain ⟨m1, hm1⟩ : ∃ m1, m1 = m + 1 := ⟨_, rfl⟩
        rw [← hm1]
        by_cases hml : m1 < l.length
        · obtain ⟨g2, hg2, _, cg⟩ := buf_nth VX.out m1 hml
          obtain ⟨g3, hg3, _, cg'⟩ := buf_nth VX.out m (by omega)
          cases hg2
          cases hg3
          have hst := endF_step l m (by omega)
          have hf := HF.out
          rw [hst] at hf
          have heb : endB l m = (isW (nth l m) && !isW (nth l m1)) := by unfold endB; rw [← hm1, show decide (m1 < l.length) = true by simpa using hml, Bool.true_and]
          rw [heb] at hf
          have HI := Go.Lib.hid fun w => isbreak_any (nth l m1) w
          have HM := Go.Lib.hid fun w => isbreak_any (nth l m) w
          have hw : IntKind.i64.wrap ((m1 : Int) - 1) = (m : Nat) := by rw [IntWalk.i64_in _ (by omega)]; omega
          have hb1 : (m1 : Int) < l.length := by omega
          have hb3 : (m : Int) < l.length := by omega
          generalize nth l m1 = x at cg HI hf
          generalize nth l m = y at cg' HM hf
          generalize isW x = p2 at HI hf
          generalize isW y = q2 at HM hf
          have HF2 := Go.Lib.hid hf
          have HM1 := Go.Lib.hid hm1
          clear hst hf heb hm1
          cases p2
          · cases q2
            · go_wp2_with fail
              refine (HI.out _).mono ?_
              rintro e w1 ⟨rfl, rfl⟩
              go_wp2_with fail
              refine (HM.out _).mono ?_
              rintro e w1 ⟨rfl, rfl⟩
              go_wp2_with fail
              go_round
              case rel => exact ⟨m1, by go_num, by omega, by rw [Hid, HM1.out]; exact HF2.out⟩
              case measure => have := HM1.out; simp [intOf] <;> omega
            · have HT : Hid (endTo l k = m) := HF2.out
              go_wp2_with fail
              refine (HI.out _).mono ?_
              rintro e w1 ⟨rfl, rfl⟩
              go_wp2_with fail
              refine (HM.out _).mono ?_
              rintro e w1 ⟨rfl, rfl⟩
              go_wp2_with fail
              go_returns
              exact ⟨rfl, by rw [HT.out]; exact ⟨_, _, _, _, VX.out.idx m⟩, OX.out.set _ _⟩
          · have HF3 : Hid (endTo l k = endF l (m + 1)) := by
              have := HF2.out
              cases q2 <;> exact this
            go_wp2_with fail
            refine (HI.out _).mono ?_
            rintro e w1 ⟨rfl, rfl⟩
            go_wp2_with fail
            go_round
            case rel => exact ⟨m1, by go_num, by omega, by rw [Hid, HM1.out]; exact HF3.out⟩
            case measure => have := HM1.out; simp [intOf] <;> omega
        · have hb1 : ¬ (m1 : Int) < l.length := by omega
          have HT : Hid (endTo l k = l.length) := by
            refine HF.out.trans ?_
            by_cases e : m < l.length
            · rw [endF_step l m e, show endB l m = false by unfold endB; rw [show decide (m + 1 < l.length) = false by simp; omega, Bool.false_and]]
              exact endF_end l (m + 1) (by omega)
            · exact endF_end l m (by omega)
          clear hm1
          go_wp2_with fail
          refine region_quiet_tail 6 (by kernel_rfl) (by kernel_rfl) ?_
          simp only [List.take_succ_cons, List.take_zero, List.drop_succ_cons, List.drop_zero]
          repeat (go_big_quiet_step (fail))
          refine wpQuiet_nil ?_
          intro _ hw'
          obtain ⟨nq, hw''⟩ := hw'
          subst hw''
          go_wp2_with fail
          go_returns
          exact ⟨rfl, by rw [HT.out]; exact ⟨_, _, _, _, (VX.out.below (below_drewN (Below.refl _ _) nq)).idx l.length⟩, (OX.out.drewN _).set _ _⟩
    · have hq : isW y = false := by simpa using hq
      rw [hq] at HM HEB
      have HFR : Hid (endTo l k = endF l k1) := by show endTo l k = _; unfold endTo; rw [HEB.out, HK1.out]; rfl
      refine region_held_tail 25 (S := (fun w' => w'.cell? ⟨rb, 0, none⟩ = some (.slice (some ⟨g, 0, none⟩) l.length cap) ∧ w'.cell? ⟨rb, 1, none⟩ = some (.int .i64 (k : Nat)) ∧ w'.cell? ⟨N, 0, none⟩ = some (.pointer (some ⟨rb, 0, none⟩)) ∧ w'.cell? ⟨g, k, none⟩ = some (.int .i32 x) ∧ w'.cell? ⟨g, k1, none⟩ = some (.int .i32 y))) (by kernel_rfl) (by kernel_rfl) ?_ (fun hHeld => ?_)
      · (try dsimp only); first | done | (exact ⟨c0, c1, cN, ck, ck1⟩)
      refine HeldT.take (i := 0) (v := ?_) (by simp only [List.getElem?_toArray, List.getElem?_cons_succ, List.getElem?_cons_zero]; rfl) (by kernel_rfl) (by kernel_rfl) (by kernel_rfl) (by kernel_rfl) (by exact fun _ _ _ h => h) ?_ (by assumption) ?_
      rotate_left
      · refine Or.inl ⟨by rfl, ?_⟩
        (intro w hSw; (try dsimp only at hSw); go_simp; try with_reducible rfl)
      try simp only [Act.put, List.setIfInBounds_toArray, List.set_cons_zero, List.set_cons_succ]
      refine HeldT.take (i := 1) (v := ?_) (by simp only [List.getElem?_toArray, List.getElem?_cons_succ, List.getElem?_cons_zero]; rfl) (by kernel_rfl) (by kernel_rfl) (by kernel_rfl) (by kernel_rfl) (by exact fun _ _ _ h => h) ?_ (by assumption) ?_
      rotate_left
      · refine Or.inl ⟨by rfl, ?_⟩
        (intro w hSw; (try dsimp only at hSw); go_simp; try with_reducible rfl)
      try simp only [Act.put, List.setIfInBounds_toArray, List.set_cons_zero, List.set_cons_succ]
      refine HeldT.take (i := 2) (v := ?_) (by simp only [List.getElem?_toArray, List.getElem?_cons_succ, List.getElem?_cons_zero]; rfl) (by kernel_rfl) (by kernel_rfl) (by kernel_rfl) (by kernel_rfl) (by exact fun _ _ _ h => h) ?_ (by assumption) ?_
      rotate_left
      · refine Or.inl ⟨by rfl, ?_⟩
        (intro w hSw; (try dsimp only at hSw); go_simp; try with_reducible rfl)
      try simp only [Act.put, List.setIfInBounds_toArray, List.set_cons_zero, List.set_cons_succ]
      refine HeldT.take (i := 3) (v := ?_) (by simp only [List.getElem?_toArray, List.getElem?_cons_succ, List.getElem?_cons_zero]; rfl) (by kernel_rfl) (by kernel_rfl) (by kernel_rfl) (by kernel_rfl) (by exact fun _ _ _ h => h) ?_ (by assumption) ?_
      rotate_left
      · refine Or.inl ⟨by rfl, ?_⟩
        (intro w hSw; (try dsimp only at hSw); go_simp; try with_reducible rfl)
      try simp only [Act.put, List.setIfInBounds_toArray, List.set_cons_zero, List.set_cons_succ]
      refine HeldT.take (i := 4) (v := ?_) (by simp only [List.getElem?_toArray, List.getElem?_cons_succ, List.getElem?_cons_zero]; rfl) (by kernel_rfl) (by kernel_rfl) (by kernel_rfl) (by kernel_rfl) (by exact fun _ _ _ h => h) ?_ (by assumption) ?_
      rotate_left
      · refine Or.inl ⟨by rfl, ?_⟩
        (intro w hSw; (try dsimp only at hSw); go_simp; try with_reducible rfl)
      try simp only [Act.put, List.setIfInBounds_toArray, List.set_cons_zero, List.set_cons_succ]
      refine HeldT.take (i := 5) (v := ?_) (by simp only [List.getElem?_toArray, List.getElem?_cons_succ, List.getElem?_cons_zero]; rfl) (by kernel_rfl) (by kernel_rfl) (by kernel_rfl) (by kernel_rfl) (by exact fun _ _ _ h => h) ?_ (by assumption) ?_
      rotate_left
      · refine Or.inl ⟨by rfl, ?_⟩
        (intro w hSw; (try dsimp only at hSw); go_simp; try with_reducible rfl)
      try simp only [Act.put, List.setIfInBounds_toArray, List.set_cons_zero, List.set_cons_succ]
      refine HeldT.take (i := 6) (v := ?_) (by simp only [List.getElem?_toArray, List.getElem?_cons_succ, List.getElem?_cons_zero]; rfl) (by kernel_rfl) (by kernel_rfl) (by kernel_rfl) (by kernel_rfl) (by exact fun _ _ _ h => h) ?_ (by assumption) ?_
      rotate_left
      · refine Or.inl ⟨by rfl, ?_⟩
        (intro w hSw; (try dsimp only at hSw); go_simp; try with_reducible rfl)
      try simp only [Act.put, List.setIfInBounds_toArray, List.set_cons_zero, List.set_cons_succ]
      refine HeldT.take (i := 7) (v := ?_) (by simp only [List.getElem?_toArray, List.getElem?_cons_succ, List.getElem?_cons_zero]; rfl) (by kernel_rfl) (by kernel_rfl) (by kernel_rfl) (by kernel_rfl) (by exact fun _ _ _ h => h) ?_ (by assumption) ?_
      rotate_left
      · refine Or.inl ⟨by rfl, ?_⟩
        (intro w hSw; (try dsimp only at hSw); go_simp; try with_reducible rfl)
      try simp only [Act.put, List.setIfInBounds_toArray, List.set_cons_zero, List.set_cons_succ]
      refine HeldT.take (i := 8) (v := ?_) (by simp only [List.getElem?_toArray, List.getElem?_cons_succ, List.getElem?_cons_zero]; rfl) (by kernel_rfl) (by kernel_rfl) (by kernel_rfl) (by kernel_rfl) (by exact fun _ _ _ h => h) ?_ (by assumption) ?_
      rotate_left
      · refine Or.inl ⟨by rfl, ?_⟩
        (intro w hSw; (try dsimp only at hSw); go_simp; try with_reducible rfl)
      try simp only [Act.put, List.setIfInBounds_toArray, List.set_cons_zero, List.set_cons_succ]
      refine HeldT.take (i := 9) (v := ?_) (by simp only [List.getElem?_toArray, List.getElem?_cons_succ, List.getElem?_cons_zero]; rfl) (by kernel_rfl) (by kernel_rfl) (by kernel_rfl) (by kernel_rfl) (by exact fun _ _ _ h => h) ?_ (by assumption) ?_
      rotate_left
      · refine Or.inl ⟨by rfl, ?_⟩
        (intro w hSw; (try dsimp only at hSw); go_simp; try with_reducible rfl)
      try simp only [Act.put, List.setIfInBounds_toArray, List.set_cons_zero, List.set_cons_succ]
      refine HeldT.one (i := 10) (by simp only [List.getElem?_toArray, List.getElem?_cons_succ, List.getElem?_cons_zero]; rfl) (by kernel_rfl) (by kernel_rfl) (fun K hK => ?_)
      go_simp
      ((refine (HI.out _).mono ?_); rintro e w1 ⟨rfl, rfl⟩)
      try go_wp2_with fail
      refine hK.out _ _ ?_ (fun hHeld => ?_)
      · (try dsimp only); first | done | (exact ⟨c0, c1, cN, ck, ck1⟩)
      clear hK K
      try simp only [Act.put, List.setIfInBounds_toArray, List.set_cons_zero, List.set_cons_succ]
      refine HeldT.take (i := 11) (v := ?_) (by simp only [List.getElem?_toArray, List.getElem?_cons_succ, List.getElem?_cons_zero]; rfl) (by kernel_rfl) (by kernel_rfl) (by kernel_rfl) (by kernel_rfl) (by exact fun _ _ _ h => h) ?_ (by assumption) ?_
      rotate_left
      · refine Or.inl ⟨by rfl, ?_⟩
        (intro w hSw; (try dsimp only at hSw); go_simp; try with_reducible rfl)
      try simp only [Act.put, List.setIfInBounds_toArray, List.set_cons_zero, List.set_cons_succ]
      refine HeldT.take (i := 12) (v := ?_) (by simp only [List.getElem?_toArray, List.getElem?_cons_succ, List.getElem?_cons_zero]; rfl) (by kernel_rfl) (by kernel_rfl) (by kernel_rfl) (by kernel_rfl) (by exact fun _ _ _ h => h) ?_ (by assumption) ?_
      rotate_left
      · refine Or.inl ⟨by rfl, ?_⟩
        (intro w hSw; (try dsimp only at hSw); go_simp; try with_reducible rfl)
      try simp only [Act.put, List.setIfInBounds_toArray, List.set_cons_zero, List.set_cons_succ]
      refine HeldT.take (i := 13) (v := ?_) (by simp only [List.getElem?_toArray, List.getElem?_cons_succ, List.getElem?_cons_zero]; rfl) (by kernel_rfl) (by kernel_rfl) (by kernel_rfl) (by kernel_rfl) (by exact fun _ _ _ h => h) ?_ (by assumption) ?_
      rotate_left
      · refine Or.inl ⟨by rfl, ?_⟩
        (intro w hSw; (try dsimp only at hSw); go_simp; try with_reducible rfl)
      try simp only [Act.put, List.setIfInBounds_toArray, List.set_cons_zero, List.set_cons_succ]
      refine HeldT.take (i := 14) (v := ?_) (by simp only [List.getElem?_toArray, List.getElem?_cons_succ, List.getElem?_cons_zero]; rfl) (by kernel_rfl) (by kernel_rfl) (by kernel_rfl) (by kernel_rfl) (by exact fun _ _ _ h => h) ?_ (by assumption) ?_
      rotate_left
      · refine Or.inl ⟨by rfl, ?_⟩
        (intro w hSw; (try dsimp only at hSw); go_simp; try with_reducible rfl)
      try simp only [Act.put, List.setIfInBounds_toArray, List.set_cons_zero, List.set_cons_succ]
      refine HeldT.take (i := 15) (v := ?_) (by simp only [List.getElem?_toArray, List.getElem?_cons_succ, List.getElem?_cons_zero]; rfl) (by kernel_rfl) (by kernel_rfl) (by kernel_rfl) (by kernel_rfl) (by exact fun _ _ _ h => h) ?_ (by assumption) ?_
      rotate_left
      · refine Or.inl ⟨by rfl, ?_⟩
        (intro w hSw; (try dsimp only at hSw); go_simp; try with_reducible rfl)
      try simp only [Act.put, List.setIfInBounds_toArray, List.set_cons_zero, List.set_cons_succ]
      refine HeldT.take (i := 16) (v := ?_) (by simp only [List.getElem?_toArray, List.getElem?_cons_succ, List.getElem?_cons_zero]; rfl) (by kernel_rfl) (by kernel_rfl) (by kernel_rfl) (by kernel_rfl) (by exact fun _ _ _ h => h) ?_ (by assumption) ?_
      rotate_left
      · refine Or.inl ⟨by rfl, ?_⟩
        (intro w hSw; (try dsimp only at hSw); go_simp; try with_reducible rfl)
      try simp only [Act.put, List.setIfInBounds_toArray, List.set_cons_zero, List.set_cons_succ]
      refine HeldT.take (i := 17) (v := ?_) (by simp only [List.getElem?_toArray, List.getElem?_cons_succ, List.getElem?_cons_zero]; rfl) (by kernel_rfl) (by kernel_rfl) (by kernel_rfl) (by kernel_rfl) (by exact fun _ _ _ h => h) ?_ (by assumption) ?_
      rotate_left
      · refine Or.inl ⟨by rfl, ?_⟩
        (intro w hSw; (try dsimp only at hSw); go_simp; try with_reducible rfl)
      try simp only [Act.put, List.setIfInBounds_toArray, List.set_cons_zero, List.set_cons_succ]
      refine HeldT.take (i := 18) (v := ?_) (by simp only [List.getElem?_toArray, List.getElem?_cons_succ, List.getElem?_cons_zero]; rfl) (by kernel_rfl) (by kernel_rfl) (by kernel_rfl) (by kernel_rfl) (by exact fun _ _ _ h => h) ?_ (by assumption) ?_
      rotate_left
      · refine Or.inl ⟨by rfl, ?_⟩
        (intro w hSw; (try dsimp only at hSw); go_simp; try with_reducible rfl)
      try simp only [Act.put, List.setIfInBounds_toArray, List.set_cons_zero, List.set_cons_succ]
      refine HeldT.take (i := 19) (v := ?_) (by simp only [List.getElem?_toArray, List.getElem?_cons_succ, List.getElem?_cons_zero]; rfl) (by kernel_rfl) (by kernel_rfl) (by kernel_rfl) (by kernel_rfl) (by exact fun _ _ _ h => h) ?_ (by assumption) ?_
      rotate_left
      · refine Or.inl ⟨by rfl, ?_⟩
        (intro w hSw; (try dsimp only at hSw); go_simp; try with_reducible rfl)
      try simp only [Act.put, List.setIfInBounds_toArray, List.set_cons_zero, List.set_cons_succ]
      refine HeldT.take (i := 20) (v := ?_) (by simp only [List.getElem?_toArray, List.getElem?_cons_succ, List.getElem?_cons_zero]; rfl) (by kernel_rfl) (by kernel_rfl) (by kernel_rfl) (by kernel_rfl) (by exact fun _ _ _ h => h) ?_ (by assumption) ?_
      rotate_left
      · refine Or.inl ⟨by rfl, ?_⟩
        (intro w hSw; (try dsimp only at hSw); go_simp; try with_reducible rfl)
      try simp only [Act.put, List.setIfInBounds_toArray, List.set_cons_zero, List.set_cons_succ]
      refine HeldT.take (i := 21) (v := ?_) (by simp only [List.getElem?_toArray, List.getElem?_cons_succ, List.getElem?_cons_zero]; rfl) (by kernel_rfl) (by kernel_rfl) (by kernel_rfl) (by kernel_rfl) (by exact fun _ _ _ h => h) ?_ (by assumption) ?_
      rotate_left
      · refine Or.inl ⟨by rfl, ?_⟩
        (intro w hSw; (try dsimp only at hSw); go_simp; try with_reducible rfl)
      try simp only [Act.put, List.setIfInBounds_toArray, List.set_cons_zero, List.set_cons_succ]
      refine HeldT.take (i := 22) (v := ?_) (by simp only [List.getElem?_toArray, List.getElem?_cons_succ, List.getElem?_cons_zero]; rfl) (by kernel_rfl) (by kernel_rfl) (by kernel_rfl) (by kernel_rfl) (by exact fun _ _ _ h => h) ?_ (by assumption) ?_
      rotate_left
      · refine Or.inl ⟨by rfl, ?_⟩
        (intro w hSw; (try dsimp only at hSw); go_simp; try with_reducible rfl)
      try simp only [Act.put, List.setIfInBounds_toArray, List.set_cons_zero, List.set_cons_succ]
      refine HeldT.take (i := 23) (v := ?_) (by simp only [List.getElem?_toArray, List.getElem?_cons_succ, List.getElem?_cons_zero]; rfl) (by kernel_rfl) (by kernel_rfl) (by kernel_rfl) (by kernel_rfl) (by exact fun _ _ _ h => h) ?_ (by assumption) ?_
      rotate_left
      · refine Or.inl ⟨by rfl, ?_⟩
        (intro w hSw; (try dsimp only at hSw); go_simp; try with_reducible rfl)
      try simp only [Act.put, List.setIfInBounds_toArray, List.set_cons_zero, List.set_cons_succ]
      refine HeldT.one (i := 24) (by simp only [List.getElem?_toArray, List.getElem?_cons_succ, List.getElem?_cons_zero]; rfl) (by kernel_rfl) (by kernel_rfl) (fun K hK => ?_)
      go_simp
      ((refine (HM.out _).mono ?_); rintro e w1 ⟨rfl, rfl⟩)
      try go_wp2_with fail
      refine hK.out _ _ ?_ (fun hHeld => ?_)
      · (try dsimp only); first | done | (exact ⟨c0, c1, cN, ck, ck1⟩)
      clear hK K
      try simp only [Act.put, List.setIfInBounds_toArray, List.set_cons_zero, List.set_cons_succ]
      refine HeldT.tail (by kernel_rfl) rfl ?_
      clear hHeld hq
      obtain ⟨wy, hwy⟩ : ∃ wy, wy = wq.drew := ⟨_, rfl⟩
      have VY : Hid (RBv wy rb l k kept (some ⟨g, 0, none⟩) cap B cap2) := hwy ▸ VQ.out.below (Below.refl _ _).drew
      have OY : Hid (Own rb w wy) := hwy ▸ OQ.out.drew
      have CY : Hid (Cap wy rb N) := HN.out.own OY.out
      rw [← hwy]
      clear hwy c0 c1 cN f1 sz ck ck1
      have VX : Hid (RBv (wy.setCell ⟨rb, 1, none⟩ (.int .i64 (k1 : Nat))) rb l k1 kept (some ⟨g, 0, none⟩) cap B cap2) := VY.out.idx k1
      have OX : Hid (Own rb w (wy.setCell ⟨rb, 1, none⟩ (.int .i64 (k1 : Nat)))) := OY.out.set _ _
      have CX : Hid (Cap (wy.setCell ⟨rb, 1, none⟩ (.int .i64 (k1 : Nat))) rb N) := HN.out.own OX.out
      have b0 := VY.out.c0
      have b1 := VY.out.c1
      have bN := CY.out.c
      have bf := VY.out.f 1
      have bz := VY.out.sz
      have a0 := VX.out.c0
      have a1 := VX.out.c1
      have aN := CX.out.c
      have g1 := VX.out.f 1
      have sx := VX.out.sz
      go_wp2_with fail
      go_loop [1] (fun x => ∃ m : Nat, x = .int .i64 ((m + 1 : Nat) : Int) ∧ m ≤ l.length ∧ Hid (endTo l k = endF l m)) (fun x => l.length + 1 - (intOf x).toNat)
      case atStart => exact ⟨k1, by go_num, by omega, HFR.out⟩
      case round =>
        obtain ⟨m, rfl, hm, HF⟩ := hrel
        obtain ⟨m1, hm1⟩ : ∃ m1, m1 = m + 1 := ⟨_, rfl⟩
        rw [← hm1]
        by_cases hml : m1 < l.length
        · obtain ⟨g2, hg2, _, cg⟩ := buf_nth VX.out m1 hml
          obtain ⟨g3, hg3, _, cg'⟩ := buf_nth VX.out m (by omega)
          cases hg2
          cases hg3
          have hst := endF_step l m (by omega)
          have hf := HF.out
          rw [hst] at hf
          have heb : endB l m = (isW (nth l m) && !isW (nth l m1)) := by unfold endB; rw [← hm1, show decide (m1 < l.length) = true by simpa using hml, Bool.true_and]
          rw [heb] at hf
          have HI := Go.Lib.hid fun w => isbreak_any (nth l m1) w
          have HM := Go.Lib.hid fun w => isbreak_any (nth l m) w
          have hw : IntKind.i64.wrap ((m1 : Int) - 1) = (m : Nat) := by rw [IntWalk.i64_in _ (by omega)]; omega
          have hb1 : (m1 : Int) < l.length := by omega
          have hb3 : (m : Int) < l.length := by omega
          generalize nth l m1 = x at cg HI hf
          generalize nth l m = y at cg' HM hf
          generalize isW x = p2 at HI hf
          generalize isW y = q2 at HM hf
          have HF2 := Go.Lib.hid hf
          have HM1 := Go.Lib.hid hm1
          clear hst hf heb hm1
          cases p2
          · cases q2
            · go_wp2_with fail
              refine (HI.out _).mono ?_
              rintro e w1 ⟨rfl, rfl⟩
              go_wp2_with fail
              refine (HM.out _).mono ?_
              rintro e w1 ⟨rfl, rfl⟩
              go_wp2_with fail
              go_round
              case rel => exact ⟨m1, by go_num, by omega, by rw [Hid, HM1.out]; exact HF2.out⟩
              case measure => have := HM1.out; simp [intOf] <;> omega
            · have HT : Hid (endTo l k = m) := HF2.out
              go_wp2_with fail
              refine (HI.out _).mono ?_
              rintro e w1 ⟨rfl, rfl⟩
              go_wp2_with fail
              refine (HM.out _).mono ?_
              rintro e w1 ⟨rfl, rfl⟩
              go_wp2_with fail
              go_returns
              exact ⟨rfl, by rw [HT.out]; exact ⟨_, _, _, _, VX.out.idx m⟩, OX.out.set _ _⟩
          · have HF3 : Hid (endTo l k = endF l (m + 1)) := by
              have := HF2.out
              cases q2 <;> exact this
            go_wp2_with fail
            refine (HI.out _).mono ?_
            rintro e w1 ⟨rfl, rfl⟩
            go_wp2_with fail
            go_round
            case rel => exact ⟨m1, by go_num, by omega, by rw [Hid, HM1.out]; exact HF3.out⟩
            case measure => have := HM1.out; simp [intOf] <;> omega
        · have hb1 : ¬ (m1 : Int) < l.length := by omega
          have HT : Hid (endTo l k = l.length) := by
            refine HF.out.trans ?_
            by_cases e : m < l.length
            · rw [endF_step l m e, show endB l m = false by unfold endB; rw [show decide (m + 1 < l.length) = false by simp; omega, Bool.false_and]]
              exact endF_end l (m + 1) (by omega)
            · exact endF_end l m (by omega)
          clear hm1
          go_wp2_with fail
          refine region_quiet_tail 6 (by kernel_rfl) (by kernel_rfl) ?_
          simp only [List.take_succ_cons, List.take_zero, List.drop_succ_cons, List.drop_zero]
          repeat (go_big_quiet_step (fail))
          refine wpQuiet_nil ?_
          intro _ hw'
          obtain ⟨nq, hw''⟩ := hw'
          subst hw''
          go_wp2_with fail
          go_returns
          exact ⟨rfl, by rw [HT.out]; exact ⟨_, _, _, _, (VX.out.below (below_drewN (Below.refl _ _) nq)).idx l.length⟩, (OX.out.drewN _).set _ _⟩
  · have hp : isW x = false := by simpa using hp
    rw [hp] at HI HEB
    have HFR : Hid (endTo l k = endF l k) := by show endTo l k = _; unfold endTo; rw [HEB.out, Bool.false_and, Bool.and_false]; rfl
    refine region_held_tail 25 (S := (fun w' => w'.cell? ⟨rb, 0, none⟩ = some (.slice (some ⟨g, 0, none⟩) l.length cap) ∧ w'.cell? ⟨rb, 1, none⟩ = some (.int .i64 (k : Nat)) ∧ w'.cell? ⟨N, 0, none⟩ = some (.pointer (some ⟨rb, 0, none⟩)) ∧ w'.cell? ⟨g, k, none⟩ = some (.int .i32 x))) (by kernel_rfl) (by kernel_rfl) ?_ (fun hHeld => ?_)
    · (try dsimp only); first | done | (exact ⟨c0, c1, cN, ck⟩)
    refine HeldT.take (i := 0) (v := ?_) (by simp only [List.getElem?_toArray, List.getElem?_cons_succ, List.getElem?_cons_zero]; rfl) (by kernel_rfl) (by kernel_rfl) (by kernel_rfl) (by kernel_rfl) (by exact fun _ _ _ h => h) ?_ (by assumption) ?_
    rotate_left
    · refine Or.inl ⟨by rfl, ?_⟩
      (intro w hSw; (try dsimp only at hSw); go_simp; try with_reducible rfl)
    try simp only [Act.put, List.setIfInBounds_toArray, List.set_cons_zero, List.set_cons_succ]
    refine HeldT.take (i := 1) (v := ?_) (by simp only [List.getElem?_toArray, List.getElem?_cons_succ, List.getElem?_cons_zero]; rfl) (by kernel_rfl) (by kernel_rfl) (by kernel_rfl) (by kernel_rfl) (by exact fun _ _ _ h => h) ?_ (by assumption) ?_
    rotate_left
    · refine Or.inl ⟨by rfl, ?_⟩
      (intro w hSw; (try dsimp only at hSw); go_simp; try with_reducible rfl)
    try simp only [Act.put, List.setIfInBounds_toArray, List.set_cons_zero, List.set_cons_succ]
    refine HeldT.take (i := 2) (v := ?_) (by simp only [List.getElem?_toArray, List.getElem?_cons_succ, List.getElem?_cons_zero]; rfl) (by kernel_rfl) (by kernel_rfl) (by kernel_rfl) (by kernel_rfl) (by exact fun _ _ _ h => h) ?_ (by assumption) ?_
    rotate_left
    · refine Or.inl ⟨by rfl, ?_⟩
      (intro w hSw; (try dsimp only at hSw); go_simp; try with_reducible rfl)
    try simp only [Act.put, List.setIfInBounds_toArray, List.set_cons_zero, List.set_cons_succ]
    refine HeldT.take (i := 3) (v := ?_) (by simp only [List.getElem?_toArray, List.getElem?_cons_succ, List.getElem?_cons_zero]; rfl) (by kernel_rfl) (by kernel_rfl) (by kernel_rfl) (by kernel_rfl) (by exact fun _ _ _ h => h) ?_ (by assumption) ?_
    rotate_left
    · refine Or.inl ⟨by rfl, ?_⟩
      (intro w hSw; (try dsimp only at hSw); go_simp; try with_reducible rfl)
    try simp only [Act.put, List.setIfInBounds_toArray, List.set_cons_zero, List.set_cons_succ]
    refine HeldT.take (i := 4) (v := ?_) (by simp only [List.getElem?_toArray, List.getElem?_cons_succ, List.getElem?_cons_zero]; rfl) (by kernel_rfl) (by kernel_rfl) (by kernel_rfl) (by kernel_rfl) (by exact fun _ _ _ h => h) ?_ (by assumption) ?_
    rotate_left
    · refine Or.inl ⟨by rfl, ?_⟩
      (intro w hSw; (try dsimp only at hSw); go_simp; try with_reducible rfl)
    try simp only [Act.put, List.setIfInBounds_toArray, List.set_cons_zero, List.set_cons_succ]
    refine HeldT.take (i := 5) (v := ?_) (by simp only [List.getElem?_toArray, List.getElem?_cons_succ, List.getElem?_cons_zero]; rfl) (by kernel_rfl) (by kernel_rfl) (by kernel_rfl) (by kernel_rfl) (by exact fun _ _ _ h => h) ?_ (by assumption) ?_
    rotate_left
    · refine Or.inl ⟨by rfl, ?_⟩
      (intro w hSw; (try dsimp only at hSw); go_simp; try with_reducible rfl)
    try simp only [Act.put, List.setIfInBounds_toArray, List.set_cons_zero, List.set_cons_succ]
    refine HeldT.take (i := 6) (v := ?_) (by simp only [List.getElem?_toArray, List.getElem?_cons_succ, List.getElem?_cons_zero]; rfl) (by kernel_rfl) (by kernel_rfl) (by kernel_rfl) (by kernel_rfl) (by exact fun _ _ _ h => h) ?_ (by assumption) ?_
    rotate_left
    · refine Or.inl ⟨by rfl, ?_⟩
      (intro w hSw; (try dsimp only at hSw); go_simp; try with_reducible rfl)
    try simp only [Act.put, List.setIfInBounds_toArray, List.set_cons_zero, List.set_cons_succ]
    refine HeldT.take (i := 7) (v := ?_) (by simp only [List.getElem?_toArray, List.getElem?_cons_succ, List.getElem?_cons_zero]; rfl) (by kernel_rfl) (by kernel_rfl) (by kernel_rfl) (by kernel_rfl) (by exact fun _ _ _ h => h) ?_ (by assumption) ?_
    rotate_left
    · refine Or.inl ⟨by rfl, ?_⟩
      (intro w hSw; (try dsimp only at hSw); go_simp; try with_reducible rfl)
    try simp only [Act.put, List.setIfInBounds_toArray, List.set_cons_zero, List.set_cons_succ]
    refine HeldT.take (i := 8) (v := ?_) (by simp only [List.getElem?_toArray, List.getElem?_cons_succ, List.getElem?_cons_zero]; rfl) (by kernel_rfl) (by kernel_rfl) (by kernel_rfl) (by kernel_rfl) (by exact fun _ _ _ h => h) ?_ (by assumption) ?_
    rotate_left
    · refine Or.inl ⟨by rfl, ?_⟩
      (intro w hSw; (try dsimp only at hSw); go_simp; try with_reducible rfl)
    try simp only [Act.put, List.setIfInBounds_toArray, List.set_cons_zero, List.set_cons_succ]
    refine HeldT.take (i := 9) (v := ?_) (by simp only [List.getElem?_toArray, List.getElem?_cons_succ, List.getElem?_cons_zero]; rfl) (by kernel_rfl) (by kernel_rfl) (by kernel_rfl) (by kernel_rfl) (by exact fun _ _ _ h => h) ?_ (by assumption) ?_
    rotate_left
    · refine Or.inl ⟨by rfl, ?_⟩
      (intro w hSw; (try dsimp only at hSw); go_simp; try with_reducible rfl)
    try simp only [Act.put, List.setIfInBounds_toArray, List.set_cons_zero, List.set_cons_succ]
    refine HeldT.one (i := 10) (by simp only [List.getElem?_toArray, List.getElem?_cons_succ, List.getElem?_cons_zero]; rfl) (by kernel_rfl) (by kernel_rfl) (fun K hK => ?_)
    go_simp
    ((refine (HI.out _).mono ?_); rintro e w1 ⟨rfl, rfl⟩)
    try go_wp2_with fail
    refine hK.out _ _ ?_ (fun hHeld => ?_)
    · (try dsimp only); first | done | (exact ⟨c0, c1, cN, ck⟩)
    clear hK K
    try simp only [Act.put, List.setIfInBounds_toArray, List.set_cons_zero, List.set_cons_succ]
    refine HeldT.take (i := 11) (v := ?_) (by simp only [List.getElem?_toArray, List.getElem?_cons_succ, List.getElem?_cons_zero]; rfl) (by kernel_rfl) (by kernel_rfl) (by kernel_rfl) (by kernel_rfl) (by exact fun _ _ _ h => h) ?_ (by assumption) ?_
    rotate_left
    · refine Or.inl ⟨by rfl, ?_⟩
      (intro w hSw; (try dsimp only at hSw); go_simp; try with_reducible rfl)
    try simp only [Act.put, List.setIfInBounds_toArray, List.set_cons_zero, List.set_cons_succ]
    refine HeldT.take (i := 12) (v := ?_) (by simp only [List.getElem?_toArray, List.getElem?_cons_succ, List.getElem?_cons_zero]; rfl) (by kernel_rfl) (by kernel_rfl) (by kernel_rfl) (by kernel_rfl) (by exact fun _ _ _ h => h) ?_ (by assumption) ?_
    rotate_left
    · refine Or.inl ⟨by rfl, ?_⟩
      (intro w hSw; (try dsimp only at hSw); go_simp; try with_reducible rfl)
    try simp only [Act.put, List.setIfInBounds_toArray, List.set_cons_zero, List.set_cons_succ]
    refine HeldT.take (i := 13) (v := undef) (by simp only [List.getElem?_toArray, List.getElem?_cons_succ, List.getElem?_cons_zero]; rfl) (by kernel_rfl) (by kernel_rfl) (by kernel_rfl) (by kernel_rfl) (by exact fun _ _ _ h => h) (Or.inr ⟨by rfl, by rfl⟩) (by assumption) ?_
    try simp only [Act.put, List.setIfInBounds_toArray, List.set_cons_zero, List.set_cons_succ]
    refine HeldT.take (i := 14) (v := undef) (by simp only [List.getElem?_toArray, List.getElem?_cons_succ, List.getElem?_cons_zero]; rfl) (by kernel_rfl) (by kernel_rfl) (by kernel_rfl) (by kernel_rfl) (by exact fun _ _ _ h => h) (Or.inr ⟨by rfl, by rfl⟩) (by assumption) ?_
    try simp only [Act.put, List.setIfInBounds_toArray, List.set_cons_zero, List.set_cons_succ]
    refine HeldT.take (i := 15) (v := undef) (by simp only [List.getElem?_toArray, List.getElem?_cons_succ, List.getElem?_cons_zero]; rfl) (by kernel_rfl) (by kernel_rfl) (by kernel_rfl) (by kernel_rfl) (by exact fun _ _ _ h => h) (Or.inr ⟨by rfl, by rfl⟩) (by assumption) ?_
    try simp only [Act.put, List.setIfInBounds_toArray, List.set_cons_zero, List.set_cons_succ]
    refine HeldT.take (i := 16) (v := undef) (by simp only [List.getElem?_toArray, List.getElem?_cons_succ, List.getElem?_cons_zero]; rfl) (by kernel_rfl) (by kernel_rfl) (by kernel_rfl) (by kernel_rfl) (by exact fun _ _ _ h => h) (Or.inr ⟨by rfl, by rfl⟩) (by assumption) ?_
    try simp only [Act.put, List.setIfInBounds_toArray, List.set_cons_zero, List.set_cons_succ]
    refine HeldT.take (i := 17) (v := undef) (by simp only [List.getElem?_toArray, List.getElem?_cons_succ, List.getElem?_cons_zero]; rfl) (by kernel_rfl) (by kernel_rfl) (by kernel_rfl) (by kernel_rfl) (by exact fun _ _ _ h => h) (Or.inr ⟨by rfl, by rfl⟩) (by assumption) ?_
    try simp only [Act.put, List.setIfInBounds_toArray, List.set_cons_zero, List.set_cons_succ]
    refine HeldT.take (i := 18) (v := undef) (by simp only [List.getElem?_toArray, List.getElem?_cons_succ, List.getElem?_cons_zero]; rfl) (by kernel_rfl) (by kernel_rfl) (by kernel_rfl) (by kernel_rfl) (by exact fun _ _ _ h => h) (Or.inr ⟨by rfl, by rfl⟩) (by assumption) ?_
    try simp only [Act.put, List.setIfInBounds_toArray, List.set_cons_zero, List.set_cons_succ]
    refine HeldT.take (i := 19) (v := undef) (by simp only [List.getElem?_toArray, List.getElem?_cons_succ, List.getElem?_cons_zero]; rfl) (by kernel_rfl) (by kernel_rfl) (by kernel_rfl) (by kernel_rfl) (by exact fun _ _ _ h => h) (Or.inr ⟨by rfl, by rfl⟩) (by assumption) ?_
    try simp only [Act.put, List.setIfInBounds_toArray, List.set_cons_zero, List.set_cons_succ]
    refine HeldT.take (i := 20) (v := undef) (by simp only [List.getElem?_toArray, List.getElem?_cons_succ, List.getElem?_cons_zero]; rfl) (by kernel_rfl) (by kernel_rfl) (by kernel_rfl) (by kernel_rfl) (by exact fun _ _ _ h => h) (Or.inr ⟨by rfl, by rfl⟩) (by assumption) ?_
    try simp only [Act.put, List.setIfInBounds_toArray, List.set_cons_zero, List.set_cons_succ]
    refine HeldT.take (i := 21) (v := undef) (by simp only [List.getElem?_toArray, List.getElem?_cons_succ, List.getElem?_cons_zero]; rfl) (by kernel_rfl) (by kernel_rfl) (by kernel_rfl) (by kernel_rfl) (by exact fun _ _ _ h => h) (Or.inr ⟨by rfl, by rfl⟩) (by assumption) ?_
    try simp only [Act.put, List.setIfInBounds_toArray, List.set_cons_zero, List.set_cons_succ]
    refine HeldT.take (i := 22) (v := undef) (by simp only [List.getElem?_toArray, List.getElem?_cons_succ, List.getElem?_cons_zero]; rfl) (by kernel_rfl) (by kernel_rfl) (by kernel_rfl) (by kernel_rfl) (by exact fun _ _ _ h => h) (Or.inr ⟨by rfl, by rfl⟩) (by assumption) ?_
    try simp only [Act.put, List.setIfInBounds_toArray, List.set_cons_zero, List.set_cons_succ]
    refine HeldT.take (i := 23) (v := undef) (by simp only [List.getElem?_toArray, List.getElem?_cons_succ, List.getElem?_cons_zero]; rfl) (by kernel_rfl) (by kernel_rfl) (by kernel_rfl) (by kernel_rfl) (by exact fun _ _ _ h => h) (Or.inr ⟨by rfl, by rfl⟩) (by assumption) ?_
    try simp only [Act.put, List.setIfInBounds_toArray, List.set_cons_zero, List.set_cons_succ]
    refine HeldT.take (i := 24) (v := undef) (by simp only [List.getElem?_toArray, List.getElem?_cons_succ, List.getElem?_cons_zero]; rfl) (by kernel_rfl) (by kernel_rfl) (by kernel_rfl) (by kernel_rfl) (by exact fun _ _ _ h => h) (Or.inr ⟨by rfl, by rfl⟩) (by assumption) ?_
    try simp only [Act.put, List.setIfInBounds_toArray, List.set_cons_zero, List.set_cons_succ]
    refine HeldT.tail (by kernel_rfl) rfl ?_
    clear hHeld hp hok
    obtain ⟨wx, hwx⟩ : ∃ wx, wx = wq.drew := ⟨_, rfl⟩
    have VX : Hid (RBv wx rb l k kept (some ⟨g, 0, none⟩) cap B cap2) := hwx ▸ VQ.out.below (Below.refl _ _).drew
    have OX : Hid (Own rb w wx) := hwx ▸ OQ.out.drew
    have CX : Hid (Cap wx rb N) := HN.out.own OX.out
    rw [← hwx]
    clear hwx c0 c1 cN f1 sz ck
    have a0 := VX.out.c0
    have a1 := VX.out.c1
    have aN := CX.out.c
    have g1 := VX.out.f 1
    have sx := VX.out.sz
    go_wp2_with fail
    go_loop [1] (fun x => ∃ m : Nat, x = .int .i64 ((m + 1 : Nat) : Int) ∧ m ≤ l.length ∧ Hid (endTo l k = endF l m)) (fun x => l.length + 1 - (intOf x).toNat)
    case atStart => exact ⟨k, by go_num, by omega, HFR.out⟩
    case round =>
      obtain ⟨m, rfl, hm, HF⟩ := hrel
      obtain ⟨m1, hm1⟩ : ∃ m1, m1 = m + 1 := ⟨_, rfl⟩
      rw [← hm1]
      by_cases hml : m1 < l.length
      · obtain ⟨g2, hg2, _, cg⟩ := buf_nth VX.out m1 hml
        obtain ⟨g3, hg3, _, cg'⟩ := buf_nth VX.out m (by omega)
        cases hg2
        cases hg3
        have hst := endF_step l m (by omega)
        have hf := HF.out
        rw [hst] at hf
        have heb : endB l m = (isW (nth l m) && !isW (nth l m1)) := by unfold endB; rw [← hm1, show decide (m1 < l.length) = true by simpa using hml, Bool.true_and]
        rw [heb] at hf
        have HI := Go.Lib.hid fun w => isbreak_any (nth l m1) w
        have HM := Go.Lib.hid fun w => isbreak_any (nth l m) w
        have hw : IntKind.i64.wrap ((m1 : Int) - 1) = (m : Nat) := by rw [IntWalk.i64_in _ (by omega)]; omega
        have hb1 : (m1 : Int) < l.length := by omega
        have hb3 : (m : Int) < l.length := by omega
        generalize nth l m1 = x at cg HI hf
        generalize nth l m = y at cg' HM hf
        generalize isW x = p2 at HI hf
        generalize isW y = q2 at HM hf
        have HF2 := Go.Lib.hid hf
        have HM1 := Go.Lib.hid hm1
        clear hst hf heb hm1
        cases p2
        · cases q2
          · go_wp2_with fail
            refine (HI.out _).mono ?_
            rintro e w1 ⟨rfl, rfl⟩
            go_wp2_with fail
            refine (HM.out _).mono ?_
            rintro e w1 ⟨rfl, rfl⟩
            go_wp2_with fail
            go_round
            case rel => exact ⟨m1, by go_num, by omega, by rw [Hid, HM1.out]; exact HF2.out⟩
            case measure => have := HM1.out; simp [intOf] <;> omega
          · have HT : Hid (endTo l k = m) := HF2.out
            go_wp2_with fail
            refine (HI.out _).mono ?_
            rintro e w1 ⟨rfl, rfl⟩
            go_wp2_with fail
            refine (HM.out _).mono ?_
            rintro e w1 ⟨rfl, rfl⟩
            go_wp2_with fail
            go_returns
            exact ⟨rfl, by rw [HT.out]; exact ⟨_, _, _, _, VX.out.idx m⟩, OX.out.set _ _⟩
        · have HF3 : Hid (endTo l k = endF l (m + 1)) := by
            have := HF2.out
            cases q2 <;> exact this
          go_wp2_with fail
          refine (HI.out _).mono ?_
          rintro e w1 ⟨rfl, rfl⟩
          go_wp2_with fail
          go_round
          case rel => exact ⟨m1, by go_num, by omega, by rw [Hid, HM1.out]; exact HF3.out⟩
          case measure => have := HM1.out; simp [intOf] <;> omega
      · have hb1 : ¬ (m1 : Int) < l.length := by omega
        have HT : Hid (endTo l k = l.length) := by
          refine HF.out.trans ?_
          by_cases e : m < l.length
          · rw [endF_step l m e, show endB l m = false by unfold endB; rw [show decide (m + 1 < l.length) = false by simp; omega, Bool.false_and]]
            exact endF_end l (m + 1) (by omega)
          · exact endF_end l m (by omega)
        clear hm1
        go_wp2_with fail
        refine region_quiet_tail 6 (by kernel_rfl) (by kernel_rfl) ?_
        simp only [List.take_succ_cons, List.take_zero, List.drop_succ_cons, List.drop_zero]
        repeat (go_big_quiet_step (fail))
        refine wpQuiet_nil ?_
        intro _ hw'
        obtain ⟨nq, hw''⟩ := hw'
        subst hw''
        go_wp2_with fail
        go_returns
        exact ⟨rfl, by rw [HT.out]; exact ⟨_, _, _, _, (VX.out.below (below_drewN (Below.refl _ _) nq)).idx l.length⟩, (OX.out.drewN _).set _ _⟩

theorem endw_none_cl (rb N : Nat) (l : List Int) (k : Nat) (kept : List Int) (w : World) (h : RB w rb l k kept) (hN : Cap w rb N) (hk0 : k = l.length) (hl : l.length ≤ 100000) :
    Calls Tryd.prog 76 #[.pointer (some ⟨N, 0, none⟩)] w fun e w' => e = .returned (.tuple #[]) ∧ (RB w' rb l k kept ∧ Own rb w w') := by
  obtain ⟨A, cap, B, cap2, hv⟩ := h
  have HV := Go.Lib.hid hv
  have HN := Go.Lib.hid hN
  have hle := hv.r0.le
  obtain ⟨c0, c1, -, -, -, -, f, sz, -⟩ := hv
  obtain ⟨cN, ltN, neN, -⟩ := hN
  have f1 := f 1
  have f0 := f 0
  clear f
  have e' : ((k : Int) == (l.length : Int)) = true := by simp; omega
  clear hk0
  go_enter Tryd.func76, Tryd.ntmps76
  go_wp2_with fail
  go_quiet (fail)
  go_wp2_with fail
  go_returns
  exact ⟨rfl, ⟨_, _, _, _, HV.out.below (below_drewN (Below.refl _ _) _)⟩, (Own.refl _ _).drewN _⟩

theorem endw_any (rb : Nat) (l : List Int) (k : Nat) (kept : List Int) (w : World) (h : RB w rb l k kept) (hk : k ≤ l.length) (hk2 : k < l.length) (hok : k + 1 < l.length ∨ isW (nth l k) = false) (hl : l.length ≤ 100000) :
    Calls Tryd.prog 65 #[.pointer (some ⟨rb, 0, none⟩)] w fun e w' => e = .returned (.tuple #[]) ∧ (RB w' rb l (endTo l k) kept ∧ Own rb w w') := by
  have eg : ∀ args w, (callFunc 76 args).run Tryd.prog w = .ok (.enter 76 args) w := fun _ _ => by kernel_rfl
  have hmf : ∀ (fn : Fn) (first cap : Array Value) (w : World), (Instr.makeFunc fn first cap).run Tryd.prog w = .ok (.func fn first cap) w := fun _ _ _ _ => rfl
  have hsz : rb < w.heap.size := by obtain ⟨_, _, _, _, h⟩ := h; exact h.sz
  have HR := Go.Lib.hid (refresh rb 76 #[.pointer (some ⟨w.heap.size, 0, none⟩)] (w.alloc (.cells #[.pointer (some ⟨rb, 0, none⟩)] 46)) _ eg
    (endw_cl rb w.heap.size l k kept _ (h.below ((Below.refl _ _).alloc (Nat.le_refl _) _)) (cap_new w rb _ (by decide) hsz) hk2 hl hok))
  clear h eg
  go_enter Tryd.func65, Tryd.ntmps65
  go_wp2_with fail
  refine HR.out.mono ?_
  rintro e w1 ⟨rfl, h1, o1⟩
  have H1 := Go.Lib.hid h1
  clear h1
  go_wp2_with fail
  go_returns
  exact ⟨rfl, H1.out, ((Own.refl _ _).alloc _).trans o1⟩

theorem endw_none_any (rb : Nat) (l : List Int) (k : Nat) (kept : List Int) (w : World) (h : RB w rb l k kept) (hk : k ≤ l.length) (h0 : k = l.length) (hl : l.length ≤ 100000) :
    Calls Tryd.prog 65 #[.pointer (some ⟨rb, 0, none⟩)] w fun e w' => e = .returned (.tuple #[]) ∧ (RB w' rb l k kept ∧ Own rb w w') := by
  have eg : ∀ args w, (callFunc 76 args).run Tryd.prog w = .ok (.enter 76 args) w := fun _ _ => by kernel_rfl
  have hmf : ∀ (fn : Fn) (first cap : Array Value) (w : World), (Instr.makeFunc fn first cap).run Tryd.prog w = .ok (.func fn first cap) w := fun _ _ _ _ => rfl
  have hsz : rb < w.heap.size := by obtain ⟨_, _, _, _, h⟩ := h; exact h.sz
  have HR := Go.Lib.hid (refresh rb 76 #[.pointer (some ⟨w.heap.size, 0, none⟩)] (w.alloc (.cells #[.pointer (some ⟨rb, 0, none⟩)] 46)) _ eg
    (endw_none_cl rb w.heap.size l k kept _ (h.below ((Below.refl _ _).alloc (Nat.le_refl _) _)) (cap_new w rb _ (by decide) hsz) h0 hl))
  clear h eg
  go_enter Tryd.func65, Tryd.ntmps65
  go_wp2_with fail
  refine HR.out.mono ?_
  rintro e w1 ⟨rfl, h1, o1⟩
  have H1 := Go.Lib.hid h1
  clear h1
  go_wp2_with fail
  go_returns
  exact ⟨rfl, H1.out, ((Own.refl _ _).alloc _).trans o1⟩

theorem key_endword (l : List Int) (k : Nat) (kept : List Int) (hk : k ≤ l.length) (hl : l.length ≤ 100000) (hk2 : k < l.length) (hok : k + 1 < l.length ∨ isW (nth l k) = false) (s : ByteArray) (n : Int) (f b : Bool) : KeyOk ⟨12, s, n, f, b⟩ l k kept (-1) l (endTo l k) kept := fun rb w h => by
  have H : Hid (RB (w.alloc (.cells #[.int .i64 12, .string s, .int .i64 n, .bool f, .bool b] 30)) rb l k kept) := h.below ((Below.refl _ _).alloc (Nat.le_refl _) _)
  have HW : Hid (∀ W, RB W rb l k kept → Calls Tryd.prog 46 #[.pointer (some ⟨rb, 0, none⟩), .int .i64 12] W fun e w' => e = .returned (.tuple #[.int .i64 (-1), .bool true]) ∧ RB w' rb l (endTo l k) kept ∧ Own rb W w') := fun W h => by
    have H := Go.Lib.hid h
    clear h
    go_enter Tryd.func46, Tryd.ntmps46
    go_wp2_with fail
    refine (endw_any rb l k kept _ H.out hk hk2 hok hl).mono ?_
    rintro e w1 ⟨rfl, h1, o1⟩
    have H1 := Go.Lib.hid h1
    clear h1
    go_wp2_with fail
    go_returns
    exact ⟨rfl, H1.out, o1⟩
  clear h
  unfold Ky.val
  go_enter Tryd.func23, Tryd.ntmps23
  go_wp2_with fail
  refine (HW.out _ H.out).mono ?_
  rintro e w1 ⟨rfl, h1, o1⟩
  have H1 := Go.Lib.hid h1
  clear h1
  go_wp2_with fail
  go_returns
  exact ⟨rfl, H1.out, ((Own.refl _ _).alloc _).trans o1⟩

theorem key_endword_none (l : List Int) (k : Nat) (kept : List Int) (hk : k ≤ l.length) (hl : l.length ≤ 100000) (h0 : k = l.length) (s : ByteArray) (n : Int) (f b : Bool) : KeyOk ⟨12, s, n, f, b⟩ l k kept (-1) l k kept := fun rb w h => by
  have H : Hid (RB (w.alloc (.cells #[.int .i64 12, .string s, .int .i64 n, .bool f, .bool b] 30)) rb l k kept) := h.below ((Below.refl _ _).alloc (Nat.le_refl _) _)
  have HW : Hid (∀ W, RB W rb l k kept → Calls Tryd.prog 46 #[.pointer (some ⟨rb, 0, none⟩), .int .i64 12] W fun e w' => e = .returned (.tuple #[.int .i64 (-1), .bool true]) ∧ RB w' rb l k kept ∧ Own rb W w') := fun W h => by
    have H := Go.Lib.hid h
    clear h
    go_enter Tryd.func46, Tryd.ntmps46
    go_wp2_with fail
    refine (endw_none_any rb l k kept _ H.out hk h0 hl).mono ?_
    rintro e w1 ⟨rfl, h1, o1⟩
    have H1 := Go.Lib.hid h1
    clear h1
    go_wp2_with fail
    go_returns
    exact ⟨rfl, H1.out, o1⟩
  clear h
  unfold Ky.val
  go_enter Tryd.func23, Tryd.ntmps23
  go_wp2_with fail
  refine (HW.out _ H.out).mono ?_
  rintro e w1 ⟨rfl, h1, o1⟩
  have H1 := Go.Lib.hid h1
  clear h1
  go_wp2_with fail
  go_returns
  exact ⟨rfl, H1.out, ((Own.refl _ _).alloc _).trans o1⟩
end Go.Proofs.YtoimdbmjpkmkfaaDoor
