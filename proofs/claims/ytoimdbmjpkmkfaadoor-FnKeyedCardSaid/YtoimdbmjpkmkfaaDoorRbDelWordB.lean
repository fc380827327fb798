/- RuneBuffer.DeleteWord, BackEscapeWord. -/
import Derived.Test.YtoimdbmjpkmkfaaDoorRbWords
namespace Go.Proofs.YtoimdbmjpkmkfaaDoor
open Go.RowKit
set_option linter.unusedVariables false
set_option linter.unusedSimpArgs false

theorem backword_any (rb : Nat) (l : List Int) (k : Nat) (kept : List Int) (w : World) (h : RB w rb l k kept) (hk : k ≤ l.length) (hl : l.length ≤ 100000) (i : Nat) (hi : befW l k = (i : Nat)) :
    Calls Tryd.prog 67 #[.pointer (some ⟨rb, 0, none⟩)] w fun e w' => e = .returned (.tuple #[]) ∧ (RB w' rb (l.take i ++ l.drop k) i ((l.take k).drop i) ∧ Own rb w w') := by
  have eg : ∀ args w, (callFunc 78 args).run Tryd.prog w = .ok (.enter 78 args) w := fun _ _ => by kernel_rfl
  have hmf : ∀ (fn : Fn) (first cap : Array Value) (w : World), (Instr.makeFunc fn first cap).run Tryd.prog w = .ok (.func fn first cap) w := fun _ _ _ _ => rfl
  have hsz : rb < w.heap.size := by obtain ⟨_, _, _, _, h⟩ := h; exact h.sz
  have HR := Go.Lib.hid (refresh rb 78 #[.pointer (some ⟨w.heap.size, 0, none⟩)] (w.alloc (.cells #[.pointer (some ⟨rb, 0, none⟩)] 46)) _ eg
    (backword_cl rb w.heap.size l k kept _ (h.below ((Below.refl _ _).alloc (Nat.le_refl _) _)) (cap_new w rb _ (by decide) hsz) hk hl i hi))
  clear h eg hi
  go_enter Tryd.func67, Tryd.ntmps67
  go_wp2_with fail
  refine HR.out.mono ?_
  rintro e w1 ⟨rfl, h1, o1⟩
  have H1 := Go.Lib.hid h1
  clear h1
  go_wp2_with fail
  go_returns
  exact ⟨rfl, H1.out, ((Own.refl _ _).alloc _).trans o1⟩

/-- The number in the cell that a pointer leads to. -/
def cellNat (x : Value) (w : World) : Nat := match x with
  | .pointer (some a) => (match w.cell? a with
    | some (.int _ n) => n.toNat
    | _ => 0)
  | _ => 0

theorem isbreak_same (c : Int) (w : World) : Calls Tryd.prog 74 #[.int .i32 c] w fun e w' => e = .returned (.bool (!isW c)) ∧ w' = w := (isbreak_any c w).mono fun _ _ ⟨h1, h2⟩ => ⟨h1, h2.symm⟩

theorem RB.after {w w' : World} {rb : Nat} {l : List Int} {k : Nat} {kept : List Int} {B : Nat} (h : RB w rb l k kept) (hb : Below B w w') (hB : w.heap.size ≤ B) : RB w' rb l k kept := h.below (hb.mono hB)

set_option maxRecDepth 100000 in
set_option maxHeartbeats 8000000 in
theorem delword_any (rb : Nat) (l : List Int) (k : Nat) (kept : List Int) (w : World) (h : RB w rb l k kept) (hk : k < l.length) (hl : l.length ≤ 100000) :
    Calls Tryd.prog 66 #[.pointer (some ⟨rb, 0, none⟩)] w fun e w' => e = .returned (.tuple #[]) ∧ (RB w' rb (l.take k ++ l.drop (cutTo l k)) k ((l.take (cutTo l k)).drop k) ∧ Own rb w w') := by
  have eg : ∀ args w, (callFunc 77 args).run Tryd.prog w = .ok (.enter 77 args) w := fun _ _ => by kernel_rfl
  have hmf : ∀ (fn : Fn) (first cap : Array Value) (w : World), (Instr.makeFunc fn first cap).run Tryd.prog w = .ok (.func fn first cap) w := fun _ _ _ _ => rfl
  have hsz : rb < w.heap.size := by obtain ⟨_, _, _, _, h⟩ := h; exact h.sz
  have hbd := cutTo_bd l k (by omega)
  obtain ⟨c, hc⟩ : ∃ c, c = cutTo l k := ⟨_, rfl⟩
  rw [← hc] at hbd ⊢
  have HCT := Go.Lib.hid hc
  have HEG := Go.Lib.hid eg
  have HMF := Go.Lib.hid hmf
  obtain ⟨W, hW⟩ : ∃ W, W = w.alloc (.cells #[.pointer (some ⟨rb, 0, none⟩)] 46) := ⟨_, rfl⟩
  have bW : Below w.heap.size w W := by rw [hW]; exact (Below.refl _ _).alloc (Nat.le_refl _) _
  have CW : Hid (Cap W rb w.heap.size) := by rw [hW]; exact cap_new w rb _ (by decide) hsz
  obtain ⟨A, cap, B, cap2, hv⟩ := h.below bW
  have zW : W.heap.size = w.heap.size + 1 := by rw [hW]; simp
  have OW := Go.Lib.hid (Own.of (rb := rb) bW)
  have c0 := hv.c0
  have c1 := hv.c1
  have cN := CW.out.c
  have hle : l.length ≤ cap := hv.r0.le
  have e0 : ((k : Int) == (l.length : Int)) = false := by simp; omega
  have HV0 := Go.Lib.hid hv
  clear h eg hmf bW hv hc
  go_enter Tryd.func66, Tryd.ntmps66
  go_wp2_with fail
  rw [← hW]
  clear hW
  go_quiet (fail)
  have HV : Hid (RBv (W.drewN nq) rb l k kept A cap B cap2) := HV0.out.below (below_drewN (Below.refl _ _) _)
  have CW1 : Hid (Cap (W.drewN nq) rb w.heap.size) := CW.out.own ((Own.refl _ _).drewN _)
  have OW1 : Hid (Own rb w (W.drewN nq)) := OW.out.drewN _
  have zW1 : (W.drewN nq).heap.size = w.heap.size + 1 := zW
  clear c0 c1 cN zW HV0 CW OW
  generalize W.drewN nq = W1 at HV CW1 OW1 zW1 ⊢
  have c0 := HV.out.c0
  have c1 := HV.out.c1
  have cN := CW1.out.c
  go_wp2_with fail
  go_loop [2] (fun x => ∃ m : Nat, x = .int .i64 m ∧ k ≤ m ∧ m ≤ l.length ∧ Hid (skipW l k = skipW l m)) (fun x => l.length - (intOf x).toNat)
  case atStart => exact ⟨k, rfl, Nat.le_refl _, by omega, rfl⟩
  case round =>
    obtain ⟨m, rfl, hm1, hm2, HS⟩ := hrel
    have step : ∀ (b : Bool), (∀ hml : m < l.length, isW (nth l m) = b) → True := fun _ _ => trivial
    have main : (skipW l k = m) → True := fun _ => trivial
    clear step main
    by_cases hcase : m < l.length ∧ isW (nth l m) = false
    · obtain ⟨hml, hp⟩ := hcase
      have hst := skipW_step l m hml
      rw [hp] at hst
      obtain ⟨g, rfl, hg, cg⟩ := buf_nth HV.out m hml
      have HI := Go.Lib.hid (isbreak_any (nth l m) W1)
      rw [hp] at HI
      have hb1 : (m : Int) < l.length := by omega
      have hb0 : (0 : Int) ≤ m := by omega
      have HS2 : Hid (skipW l k = skipW l (m + 1)) := HS.out.trans hst
      generalize nth l m = x at cg HI
      clear hst hp
      go_wp2_with fail
      refine HI.out.mono ?_
      rintro e w1 ⟨rfl, rfl⟩
      go_wp2_with fail
      go_round
      case rel => exact ⟨m + 1, by go_num, by omega, by omega, HS2.out⟩
      case measure => simp [intOf] <;> omega
    · have hsk : skipW l k = m := by
        refine HS.out.trans ?_
        by_cases hml : m < l.length
        · rw [skipW_step l m hml, if_pos]
          by_cases hq : isW (nth l m) = true
          · exact hq
          · exact absurd ⟨hml, by simpa using hq⟩ hcase
        · exact skipW_end l m (by omega)
      have HCA : Hid (c = if aftW l (m + 1) = -1 then l.length else (aftW l (m + 1)).toNat - 1) := by rw [Hid, HCT.out, cutTo, hsk]
      clear hsk
      by_cases hml : m < l.length
      · have hp : isW (nth l m) = true := by
          by_cases hq : isW (nth l m) = true
          · exact hq
          · exact absurd ⟨hml, by simpa using hq⟩ hcase
        obtain ⟨g, rfl, hg, cg⟩ := buf_nth HV.out m hml
        have HI := Go.Lib.hid (isbreak_any (nth l m) W1)
        rw [hp] at HI
        have hb1 : (m : Int) < l.length := by omega
        have hb0 : (0 : Int) ≤ m := by omega
        generalize nth l m = x at cg HI
        clear hp hcase
        go_wp2_with fail
        refine HI.out.mono ?_
        rintro e w1 ⟨rfl, rfl⟩
        go_wp2_with fail
        have bA : Below W1.heap.size W1 (W1.alloc (.cells #[.int .i64 ((m : Int) + 1)] 3)) := (Below.refl _ _).alloc (Nat.le_refl _) _
        have BA := Go.Lib.hid bA
        have niA : ¬ I32 (W1.alloc (.cells #[.int .i64 ((m : Int) + 1)] 3)) W1.heap.size := by
          rintro ⟨cur, fr, e⟩
          rw [heap_alloc_new] at e
          simp at e
        have NIA := Go.Lib.hid niA
        clear bA niA c0 c1 cN
        rw [← zW1]
        have ltN := CW1.out.lt
        have neN := CW1.out.ne
        have ZR : Hid (rb < w.heap.size) := hsz
        go_loopw [3] (fun x wr => ∃ (P j : Nat), x = .pointer (some ⟨P, 0, none⟩) ∧ W1.heap.size ≤ P ∧ P < wr.heap.size ∧ wr.cell? ⟨P, 0, none⟩ = some (.int .i64 (j : Nat)) ∧ m < j ∧ j ≤ l.length + 1 ∧ wr.frozen? ⟨P, 0, none⟩ = false ∧ Hid (¬ I32 wr P) ∧ Hid (Below W1.heap.size W1 wr) ∧ Hid (aftW l (m + 1) = aftW l j)) (fun x wr => l.length + 1 - cellNat x wr)
        case atStart => exact ⟨W1.heap.size, m + 1, rfl, Nat.le_refl _, by simp, by simp [go_sem], by omega, by omega, by simp [go_sem], NIA.out, BA.out, rfl⟩
        case round =>
          obtain ⟨P, j, rfl, hP1, hP2, cP, hj1, hj2, fP, NI, HB, HA⟩ := hrel
          have HVR : Hid (RBv wr rb l k kept (some ⟨g, 0, none⟩) cap B cap2) := HV.out.below HB.out
          have CWR : Hid (Cap wr rb w.heap.size) := CW1.out.own (Own.of HB.out)
          have OWR : Hid (Own rb w wr) := OW1.out.after HB.out
          have c0 := HVR.out.c0
          have c1 := HVR.out.c1
          have cN := CWR.out.c
          have nNP : ¬ w.heap.size = P := by omega
          have nRP : ¬ rb = P := by omega
          have zr := HB.out.size
          by_cases hjl : j < l.length
          · have hb1 : (j : Int) < l.length := by omega
            have hb0 : (0 : Int) ≤ j := by omega
            go_wp2_with fail
            go_quiet (fail)
            have kq : Below wr.heap.size wr (wr.drewN nq) := below_drewN (Below.refl _ _) _
            have HVQ : Hid (RBv (wr.drewN nq) rb l k kept (some ⟨g, 0, none⟩) cap B cap2) := HVR.out.below kq
            have CWQ : Hid (Cap (wr.drewN nq) rb w.heap.size) := CWR.out.own (Own.of kq)
            have OWQ : Hid (Own rb w (wr.drewN nq)) := OWR.out.after kq
            have HBQ : Hid (Below W1.heap.size W1 (wr.drewN nq)) := below_drewN HB.out _
            have NIQ : Hid (¬ I32 (wr.drewN nq) P) := NI.out
            have cPQ : (wr.drewN nq).cell? ⟨P, 0, none⟩ = some (.int .i64 (j : Nat)) := cP
            have fPQ : (wr.drewN nq).frozen? ⟨P, 0, none⟩ = false := fP
            have hPQ : P < (wr.drewN nq).heap.size := hP2
            have zrQ : W1.heap.size ≤ (wr.drewN nq).heap.size := zr
            have HWQ : Hid (cellNat (.pointer (some ⟨P, 0, none⟩)) wr = j) := by simp [Hid, cellNat, cP]
            generalize wr.drewN nq = wq at HVQ CWQ OWQ HBQ NIQ cPQ fPQ hPQ zrQ ⊢
            clear kq HVR CWR OWR HB NI cP fP hP2 zr c0 c1 cN
            have c0 := HVQ.out.c0
            have c1 := HVQ.out.c1
            have cN := CWQ.out.c
            obtain ⟨g, hgA, hg, cg⟩ := buf_nth HVQ.out j hjl
            cases hgA
            obtain ⟨g', hgg, _, cg'⟩ := buf_nth HVQ.out (j - 1) (by omega)
            cases hgg
            have hst := aftW_step l j hjl
            rw [begB_eq l j (by omega) hjl] at hst
            obtain ⟨j1, hjj⟩ : ∃ j1, j1 = j - 1 := ⟨_, rfl⟩
            rw [← hjj] at hst cg'
            have HI := Go.Lib.hid fun (b : Bool) (h : (!isW (nth l j)) = b) w => by have := isbreak_same (nth l j) w; rw [h] at this; exact this
            have HM := Go.Lib.hid fun (b : Bool) (h : (!isW (nth l j1)) = b) w => by have := isbreak_same (nth l j1) w; rw [h] at this; exact this
            have hw : IntKind.i64.wrap ((j : Int) - 1) = (j1 : Nat) := by rw [IntWalk.i64_in _ (by omega)]; omega
            have hb2 : (0 : Int) ≤ j1 := by omega
            have hb3 : (j1 : Int) < l.length := by omega
            generalize nth l j = x at cg HI hst
            generalize nth l j1 = y at cg' HM hst
            generalize isW x = p at HI hst
            generalize isW y = q at HM hst
            have HST := Go.Lib.hid hst
            have HJJ := Go.Lib.hid hjj
            clear hst hjj
            cases p
            · have HI1 := Go.Lib.hid (HI.out true rfl)
              go_wp2_with fail
              go_quiet ((go_at_call 74; exact Calls.quiet_of_same (HI1.out _)))
              have HBZ : Hid (Below W1.heap.size W1 (wq.drewN nq)) := below_drewN HBQ.out _
              have cPZ : (wq.drewN nq).cell? ⟨P, 0, none⟩ = some (.int .i64 (j : Nat)) := cPQ
              have zrZ : W1.heap.size ≤ (wq.drewN nq).heap.size := zrQ
              generalize wq.drewN nq = wz at HBZ cPZ zrZ ⊢
              clear HVQ CWQ OWQ HBQ NIQ cPQ fPQ hPQ zrQ c0 c1 cN cg cg' hb2 hb3 hw
              go_wp2_with fail
              go_roundw
              case rel =>
                have kd : Below W1.heap.size W1 (wz.alloc (.cells #[.int .i64 (((j + 1 : Nat) : Int))] 3)) := HBZ.out.alloc zrZ _
                have ni : ¬ I32 (wz.alloc (.cells #[.int .i64 (((j + 1 : Nat) : Int))] 3)) wz.heap.size := by
                  rintro ⟨cur, fr, e⟩
                  rw [heap_alloc_new] at e
                  simp at e
                exact ⟨wz.heap.size, j + 1, rfl, zrZ, by simp, by simp [go_sem], by omega, by omega, by simp [go_sem], ni, kd, HA.out.trans (HST.out.trans rfl)⟩
              case measure => rw [HWQ.out]; simp [cellNat, go_sem]; omega
            · cases q
              · have HI1 := Go.Lib.hid (HI.out false rfl)
                have HM1 := Go.Lib.hid (HM.out true rfl)
                have hcj : Hid (c = j1) := by
                  have h1 := HCA.out
                  rw [HA.out, HST.out] at h1
                  rw [show (if (true && !false) = true then (j : Int) else aftW l (j + 1)) = (j : Int) from rfl, if_neg (by omega)] at h1
                  have h2 := HJJ.out
                  show c = j1
                  omega
                have hs1 := mid_run (some ⟨g, 0, none⟩) l.length cap k j1 (by have := HJJ.out; omega) (by omega)
                have hk1 : k ≤ j1 := by have := HJJ.out; omega
                have hj1l : j1 ≤ l.length := by omega
                have hjn : ((j : Nat) : Int) = ((j1 + 1 : Nat) : Int) := by have := HJJ.out; omega
                have HJN := Go.Lib.hid hjn
                clear hjn
                go_wp2_with fail
                go_quiet ((go_at_call 74; first | (with_reducible exact Calls.quiet_of_same (HI1.out _)) | (with_reducible exact Calls.quiet_of_same (HM1.out _))))
                have kz : Below wq.heap.size wq (wq.drewN nq) := below_drewN (Below.refl _ _) _
                have HVZ : Hid (RBv (wq.drewN nq) rb l k kept (some ⟨g, 0, none⟩) cap B cap2) := HVQ.out.below kz
                have CWZ : Hid (Cap (wq.drewN nq) rb w.heap.size) := CWQ.out.own (Own.of kz)
                have OWZ : Hid (Own rb w (wq.drewN nq)) := OWQ.out.after kz
                have NIZ : Hid (¬ I32 (wq.drewN nq) P) := NIQ.out
                have cPZ : (wq.drewN nq).cell? ⟨P, 0, none⟩ = some (.int .i64 (j : Nat)) := cPQ
                have hPZ : P < (wq.drewN nq).heap.size := hPQ
                generalize wq.drewN nq = wz at HVZ CWZ OWZ NIZ cPZ hPZ ⊢
                clear kz HVQ CWQ OWQ HBQ NIQ cPQ fPQ hPQ zrQ c0 c1 cN cg cg'
                have c0 := HVZ.out.c0
                have c1 := HVZ.out.c1
                have cN := CWZ.out.c
                go_wp2_with fail
                refine region_quiet_tail 12 (by kernel_rfl) (by kernel_rfl) ?_
                simp only [List.take_succ_cons, List.take_zero, List.drop_succ_cons, List.drop_zero]
                repeat (go_big_quiet_step (fail))
                refine wpQuiet_nil ?_
                intro _ hw'
                obtain ⟨nq, hw''⟩ := hw'
                subst hw''
                have kd : Below wz.heap.size wz (wz.drewN nq) := below_drewN (Below.refl _ _) _
                have HV1 : Hid (RBv (wz.drewN nq) rb l k kept (some ⟨g, 0, none⟩) cap B cap2) := HVZ.out.below kd
                have HSRC := Go.Lib.hid (row_src HV1.out.r0 k j1 hk1 hj1l)
                have OD : Hid (Own rb wz (wz.drewN nq)) := .of kd
                clear kd
                go_wp2_with fail
                refine (push_kill HV1.out _ _ _ _ HSRC.out (by simp; omega)).mono ?_
                rintro e w2 ⟨rfl, ⟨B', cap', h1⟩, o1⟩
                have O1 : Hid (Own rb wz w2) := OD.out.trans o1
                have H1 := Go.Lib.hid h1
                have CW2 : Hid (Cap w2 rb w.heap.size) := CWZ.out.own O1.out
                have eP := O1.out.rest P hPZ (by omega) (.inr NIZ.out)
                have cP2 : w2.cell? ⟨P, 0, none⟩ = some (.int .i64 ((j1 + 1 : Nat) : Int)) := by rw [← HJN.out]; exact (World.cell?_of_block (w := wz) eP).trans cPZ
                have NI2 : ¬ I32 w2 P := fun h => NIZ.out (h.of eP.symm)
                have lP2 : P < w2.heap.size := Nat.lt_of_lt_of_le hPZ O1.out.size
                have cN2 := CW2.out.c
                have HCL := Go.Lib.hid (refresh rb 77 #[.pointer (some ⟨w.heap.size, 0, none⟩), .pointer (some ⟨P, 0, none⟩)] w2 _ HEG.out
                  (delword_cl rb w.heap.size P l k ((l.take j1).drop k) j1 w2 ⟨_, _, _, _, H1.out⟩ CW2.out cP2 lP2 (by omega) NI2 hk1 hj1l hl))
                have hmf := HMF.out
                clear h1 o1 eP cP2 NI2 cPZ c0 c1 cN
                go_wp2_with fail
                refine HCL.out.mono ?_
                rintro e w3 ⟨rfl, h3, o3⟩
                have H3 := Go.Lib.hid h3
                have O3 := Go.Lib.hid (OWZ.out.trans (O1.out.trans o3))
                clear h3 o3
                go_wp2_with fail
                go_returns
                exact ⟨rfl, by rw [hcj.out]; exact H3.out, O3.out⟩
              · have HI1 := Go.Lib.hid (HI.out false rfl)
                have HM1 := Go.Lib.hid (HM.out false rfl)
                go_wp2_with fail
                go_quiet ((go_at_call 74; first | (with_reducible exact Calls.quiet_of_same (HI1.out _)) | (with_reducible exact Calls.quiet_of_same (HM1.out _))))
                have HBZ : Hid (Below W1.heap.size W1 (wq.drewN nq)) := below_drewN HBQ.out _
                have cPZ : (wq.drewN nq).cell? ⟨P, 0, none⟩ = some (.int .i64 (j : Nat)) := cPQ
                have zrZ : W1.heap.size ≤ (wq.drewN nq).heap.size := zrQ
                generalize wq.drewN nq = wz at HBZ cPZ zrZ ⊢
                clear HVQ CWQ OWQ HBQ NIQ cPQ fPQ hPQ zrQ c0 c1 cN cg cg' hb2 hb3 hw
                go_wp2_with fail
                go_roundw
                case rel =>
                  have kd : Below W1.heap.size W1 (wz.alloc (.cells #[.int .i64 (((j + 1 : Nat) : Int))] 3)) := HBZ.out.alloc zrZ _
                  have ni : ¬ I32 (wz.alloc (.cells #[.int .i64 (((j + 1 : Nat) : Int))] 3)) wz.heap.size := by
                    rintro ⟨cur, fr, e⟩
                    rw [heap_alloc_new] at e
                    simp at e
                  exact ⟨wz.heap.size, j + 1, rfl, zrZ, by simp, by simp [go_sem], by omega, by omega, by simp [go_sem], ni, kd, HA.out.trans (HST.out.trans rfl)⟩
                case measure => rw [HWQ.out]; simp [cellNat, go_sem]; omega
          · have hcl : c = l.length := by
              rw [HCA.out, HA.out, aftW_end l j (by omega)]; rfl
            have HCL := Go.Lib.hid hcl
            have hb1 : ¬ (j : Int) < l.length := by omega
            clear hcl
            go_wp2_with fail
            go_quiet (fail)
            have kd : Below wr.heap.size wr (wr.drewN nq) := below_drewN (Below.refl _ _) _
            have HV1 : Hid (RB (wr.drewN nq) rb l k kept) := ⟨_, _, _, _, HVR.out.below kd⟩
            have OD : Hid (Own rb w (wr.drewN nq)) := OWR.out.after kd
            clear kd
            go_wp2_with fail
            refine (kill_any rb l k kept _ HV1.out (by omega) hl).mono ?_
            rintro e w2 ⟨rfl, h1, o1⟩
            have H1 := Go.Lib.hid h1
            have O1 := Go.Lib.hid (OD.out.trans o1)
            clear h1 o1
            go_wp2_with fail
            go_returns
            exact ⟨rfl, by rw [HCL.out, List.drop_length, List.append_nil, List.take_length]; exact H1.out, O1.out⟩
      · have hb1 : decide ((m : Int) < l.length) = false := by simp; omega
        clear hcase
        go_wp2_with fail
        have bA : Below W1.heap.size W1 (W1.alloc (.cells #[.int .i64 ((m : Int) + 1)] 3)) := (Below.refl _ _).alloc (Nat.le_refl _) _
        have BA := Go.Lib.hid bA
        have niA : ¬ I32 (W1.alloc (.cells #[.int .i64 ((m : Int) + 1)] 3)) W1.heap.size := by
          rintro ⟨cur, fr, e⟩
          rw [heap_alloc_new] at e
          simp at e
        have NIA := Go.Lib.hid niA
        clear bA niA c0 c1 cN
        rw [← zW1]
        have ltN := CW1.out.lt
        have neN := CW1.out.ne
        have ZR : Hid (rb < w.heap.size) := hsz
        go_loopw [3] (fun x wr => ∃ (P j : Nat), x = .pointer (some ⟨P, 0, none⟩) ∧ W1.heap.size ≤ P ∧ P < wr.heap.size ∧ wr.cell? ⟨P, 0, none⟩ = some (.int .i64 (j : Nat)) ∧ m < j ∧ j ≤ l.length + 1 ∧ wr.frozen? ⟨P, 0, none⟩ = false ∧ Hid (¬ I32 wr P) ∧ Hid (Below W1.heap.size W1 wr) ∧ Hid (aftW l (m + 1) = aftW l j)) (fun x wr => l.length + 1 - cellNat x wr)
        case atStart => exact ⟨W1.heap.size, m + 1, rfl, Nat.le_refl _, by simp, by simp [go_sem], by omega, by omega, by simp [go_sem], NIA.out, BA.out, rfl⟩
        case round =>
          obtain ⟨P, j, rfl, hP1, hP2, cP, hj1, hj2, fP, NI, HB, HA⟩ := hrel
          have HVR : Hid (RBv wr rb l k kept A cap B cap2) := HV.out.below HB.out
          have CWR : Hid (Cap wr rb w.heap.size) := CW1.out.own (Own.of HB.out)
          have OWR : Hid (Own rb w wr) := OW1.out.after HB.out
          have c0 := HVR.out.c0
          have c1 := HVR.out.c1
          have cN := CWR.out.c
          have nNP : ¬ w.heap.size = P := by omega
          have nRP : ¬ rb = P := by omega
          have zr := HB.out.size
          by_cases hjl : j < l.length
          · exfalso; omega
          · have hcl : c = l.length := by
              rw [HCA.out, HA.out, aftW_end l j (by omega)]; rfl
            have HCL := Go.Lib.hid hcl
            have hb1 : ¬ (j : Int) < l.length := by omega
            clear hcl
            go_wp2_with fail
            go_quiet (fail)
            have kd : Below wr.heap.size wr (wr.drewN nq) := below_drewN (Below.refl _ _) _
            have HV1 : Hid (RB (wr.drewN nq) rb l k kept) := ⟨_, _, _, _, HVR.out.below kd⟩
            have OD : Hid (Own rb w (wr.drewN nq)) := OWR.out.after kd
            clear kd
            go_wp2_with fail
            refine (kill_any rb l k kept _ HV1.out (by omega) hl).mono ?_
            rintro e w2 ⟨rfl, h1, o1⟩
            have H1 := Go.Lib.hid h1
            have O1 := Go.Lib.hid (OD.out.trans o1)
            clear h1 o1
            go_wp2_with fail
            go_returns
            exact ⟨rfl, by rw [HCL.out, List.drop_length, List.append_nil, List.take_length]; exact H1.out, O1.out⟩
end Go.Proofs.YtoimdbmjpkmkfaaDoor
