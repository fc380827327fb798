/- RuneBuffer.MoveTo. -/
import Derived.Test.YtoimdbmjpkmkfaaDoorRbMethods
import Derived.Test.YtoimdbmjpkmkfaaDoorMovePl
namespace Go.Proofs.YtoimdbmjpkmkfaaDoor
open Go.RowKit
set_option linter.unusedVariables false
set_option linter.unusedSimpArgs false

theorem refresh_of (rb f : Nat) (caps : Array Value) (w : World) {Q : Ending → World → Prop} (eg : ∀ args w, (callFunc f args).run Tryd.prog w = .ok (.enter f args) w)
    (h : Calls Tryd.prog f caps w fun e w' => e = .returned (.tuple #[]) ∧ Q e w') :
    Calls Tryd.prog 50 #[.pointer (some ⟨rb, 0, none⟩), .func (.func f) #[] caps] w fun e w' => e = .returned (.tuple #[]) ∧ Q e w' :=
  (refresh rb f caps w (fun w' => Q (.returned (.tuple #[])) w') eg (h.mono fun e w' ⟨h1, h2⟩ => ⟨h1, by rw [← h1]; exact h2⟩)).mono fun e w' ⟨h1, h2⟩ => ⟨h1, by rw [h1]; exact h2⟩

/-- What a step to a sign leaves behind; S: the variable that tells. -/
def MvPost (rb S : Nat) (T : Bool) (l : List Int) (k' : Nat) (kept : List Int) (w : World) (e : Ending) (w' : World) : Prop :=
  e = .returned (.tuple #[]) ∧ ∃ w2, RB w2 rb l k' kept ∧ Own rb w w2 ∧ w2.heap[S]? = w.heap[S]? ∧ w' = if T then w2.setCell ⟨S, 0, none⟩ (.bool true) else w2

theorem RB.idx {w : World} {rb : Nat} {l : List Int} {k : Nat} {kept : List Int} (h : RB w rb l k kept) (i : Nat) : RB (w.setCell ⟨rb, 1, none⟩ (.int .i64 (i : Nat))) rb l i kept := by
  obtain ⟨_, _, _, _, h⟩ := h
  exact ⟨_, _, _, _, h.idx i⟩
theorem RBv.idx2 {w : World} {rb : Nat} {l : List Int} {k : Nat} {kept : List Int} {A : Option Addr} {cap : Nat} {B : Option Addr} {cap2 : Nat} (h : RBv w rb l k kept A cap B cap2) (i : Nat) : RB (w.setCell ⟨rb, 1, none⟩ (.int .i64 (i : Nat))) rb l i kept := ⟨_, _, _, _, h.idx i⟩

set_option maxRecDepth 100000 in
set_option maxHeartbeats 4000000 in
theorem moveto_back (rb R N C P S : Nat) (short : Bool) (c : Int) (l : List Int) (k : Nat) (kept : List Int) (w : World) (h : RB w rb l k kept) (hk : k ≤ l.length) (hl : l.length ≤ 100000)
    (cR : w.cell? ⟨R, 0, none⟩ = some (.bool true)) (cN : w.cell? ⟨N, 0, none⟩ = some (.pointer (some ⟨rb, 0, none⟩))) (cC : w.cell? ⟨C, 0, none⟩ = some (.int .i32 c)) (cP : w.cell? ⟨P, 0, none⟩ = some (.bool short)) (fS : w.frozen? ⟨S, 0, none⟩ = false)
    (cS : w.cell? ⟨S, 0, none⟩ = some (.bool false)) (nN : N ≠ rb) (nP : P ≠ rb) (nS : S ≠ rb) (hS : S < w.heap.size) (hN : N < w.heap.size) (hP : P < w.heap.size) :
    Calls Tryd.prog 60 #[.pointer (some ⟨R, 0, none⟩), .pointer (some ⟨N, 0, none⟩), .pointer (some ⟨C, 0, none⟩), .pointer (some ⟨P, 0, none⟩), .pointer (some ⟨S, 0, none⟩)] w (MvPost rb S (mvT true l c k) l (mvK short true l c k) kept w) := by
  obtain ⟨A, cap, B, cap2, hv⟩ := h
  have HV := Go.Lib.hid hv
  have HROW : Hid (∀ m, m < l.length → ∃ g, A = some ⟨g, 0, none⟩ ∧ g ≠ rb ∧ w.cell? ⟨g, m, none⟩ = some (.int .i32 (nth l m))) := fun m hm => by
    rcases hv.r0.own with ⟨_, _, e⟩ | ⟨g, rfl, hg, hlt, _, _, hc⟩
    · rw [e] at hm; simp at hm
    · exact ⟨g, rfl, by omega, hc m _ (by simp [nth, hm])⟩
  have hle : l.length ≤ cap := hv.r0.le
  have c0 := hv.c0
  have c1 := hv.c1
  have f1 := hv.f 1
  have sz := hv.sz
  have nN' : ¬ rb = N := fun e => nN e.symm
  have nP' : ¬ rb = P := fun e => nP e.symm
  have nS' : ¬ rb = S := fun e => nS e.symm
  clear hv
  go_enter Tryd.func60, Tryd.ntmps60
  go_wp2_with fail
  go_loopw [5] (fun x wr => ∃ (z : Int) (q : Nat), x = .int .i64 z ∧ -1 ≤ z ∧ z < k ∧ wr = w.drewN q ∧ Hid (lastTo l c k = lastTo l c (z + 1).toNat)) (fun x _ => (intOf x + 1).toNat)
  case atStart => exact ⟨(k : Int) - 1, 0, rfl, by omega, by omega, rfl, by rw [Hid]; congr 1; omega⟩
  case round =>
    obtain ⟨z, q, rfl, hz1, hz2, rfl, HR⟩ := hrel
    by_cases hz : 0 ≤ z
    · obtain ⟨m, hm⟩ := Int.eq_ofNat_of_zero_le hz
      subst hm
      have hml : m < l.length := by omega
      obtain ⟨g, rfl, hg, cg⟩ := HROW.out m hml
      have hb1 : (m : Int) < l.length := by omega
      by_cases e : nth l m = c
      · have HF : Hid (mvR true l c k = (m : Nat)) := by
          rw [Hid, mvR, if_pos rfl, HR.out, show ((m : Int) + 1).toNat = m + 1 by omega, lastTo, if_pos e]
        have e' : (nth l m == c) = true := by simp [e]
        generalize nth l m = x at cg e'
        clear e
        have HT := Go.Lib.hid (mv_some HF.out short)
        cases short
        · go_wp2_with fail
          go_quiet (fail)
          go_wp2_with fail
          go_returns
          refine ⟨rfl, (w.drewN (q + nq)).setCell ⟨rb, 1, none⟩ (.int .i64 (m : Nat)), ?_, ((Own.refl _ _).drewN _).set _ _, Below.heap_setCell _ _ _ _ nS, ?_⟩
          · rw [HT.out.2]; exact (HV.out.below (below_drewN (Below.refl _ _) _)).idx2 m
          · rw [HT.out.1]; rfl
        · have hw : IntKind.i64.wrap ((m : Int) + 1) = ((m + 1 : Nat) : Int) := by rw [IntWalk.i64_in _ (by omega)]; omega
          have HV2 : Hid (RBv w rb l k kept (some ⟨g, 0, none⟩) cap B cap2) := HV.out
          obtain ⟨m2, hm2⟩ : ∃ m2, m2 = m + 1 := ⟨_, rfl⟩
          have HK : Hid (mvK true true l c k = m2) := by rw [Hid, (mv_some HF.out true).2, hm2]; rfl
          have HM2 := Go.Lib.hid hm2
          rw [← hm2] at hw
          clear hm2
          go_wp2_with fail
          go_quiet (fail)
          go_wp2_with fail
          go_returns
          refine ⟨rfl, ((w.drewN (q + nq)).setCell ⟨rb, 1, none⟩ (.int .i64 (m : Nat))).setCell ⟨rb, 1, none⟩ (.int .i64 (m2 : Nat)), ?_, (((Own.refl _ _).drewN _).set _ _).set _ _, ?_, ?_⟩
          · rw [HK.out]; exact ((HV2.out.below (below_drewN (Below.refl _ _) _)).idx2 m).idx m2
          · rw [Below.heap_setCell _ _ _ _ nS, Below.heap_setCell _ _ _ _ nS]; rfl
          · rw [HT.out.1]; rfl
      · have HF : Hid (lastTo l c k = lastTo l c m) := by
          rw [Hid, HR.out, show ((m : Int) + 1).toNat = m + 1 by omega, lastTo, if_neg e]
        have e' : (nth l m == c) = false := by simp [e]
        generalize nth l m = x at cg e'
        clear e
        go_wp2_with fail
        go_quiet (fail)
        go_wp2_with fail
        go_roundw
        case rel => exact ⟨(m : Int) - 1, q + nq, rfl, by omega, by omega, rfl, by rw [Hid, HF.out]; congr 1; omega⟩
        case measure => simp [intOf] <;> omega
    · have HF : Hid (mvR true l c k = -1) := by
        rw [Hid, mvR, if_pos rfl, HR.out, show (z + 1).toNat = 0 by omega]
        try rfl
      have HT := Go.Lib.hid (mv_none HF.out short)
      have hz' : decide (0 ≤ z) = false := by simpa using hz
      go_wp2_with fail
      go_returns
      refine ⟨rfl, w.drewN q, ?_, (Own.refl _ _).drewN _, rfl, ?_⟩
      · rw [HT.out.2]; exact ⟨_, _, _, _, HV.out.below (below_drewN (Below.refl _ _) _)⟩
      · rw [HT.out.1]; rfl

set_option maxRecDepth 100000 in
set_option maxHeartbeats 4000000 in
theorem moveto_on (rb R N C P S : Nat) (short : Bool) (c : Int) (l : List Int) (k : Nat) (kept : List Int) (w : World) (h : RB w rb l k kept) (hk : k ≤ l.length) (hl : l.length ≤ 100000)
    (cR : w.cell? ⟨R, 0, none⟩ = some (.bool false)) (cN : w.cell? ⟨N, 0, none⟩ = some (.pointer (some ⟨rb, 0, none⟩))) (cC : w.cell? ⟨C, 0, none⟩ = some (.int .i32 c)) (cP : w.cell? ⟨P, 0, none⟩ = some (.bool short)) (fS : w.frozen? ⟨S, 0, none⟩ = false)
    (cS : w.cell? ⟨S, 0, none⟩ = some (.bool false)) (nN : N ≠ rb) (nP : P ≠ rb) (nS : S ≠ rb) (hS : S < w.heap.size) (hN : N < w.heap.size) (hP : P < w.heap.size) :
    Calls Tryd.prog 60 #[.pointer (some ⟨R, 0, none⟩), .pointer (some ⟨N, 0, none⟩), .pointer (some ⟨C, 0, none⟩), .pointer (some ⟨P, 0, none⟩), .pointer (some ⟨S, 0, none⟩)] w (MvPost rb S (mvT false l c k) l (mvK short false l c k) kept w) := by
  obtain ⟨A, cap, B, cap2, hv⟩ := h
  have HV := Go.Lib.hid hv
  have HROW : Hid (∀ m, m < l.length → ∃ g, A = some ⟨g, 0, none⟩ ∧ g ≠ rb ∧ w.cell? ⟨g, m, none⟩ = some (.int .i32 (nth l m))) := fun m hm => by
    rcases hv.r0.own with ⟨_, _, e⟩ | ⟨g, rfl, hg, hlt, _, _, hc⟩
    · rw [e] at hm; simp at hm
    · exact ⟨g, rfl, by omega, hc m _ (by simp [nth, hm])⟩
  have hle : l.length ≤ cap := hv.r0.le
  have c0 := hv.c0
  have c1 := hv.c1
  have f1 := hv.f 1
  have sz := hv.sz
  have nN' : ¬ rb = N := fun e => nN e.symm
  have nP' : ¬ rb = P := fun e => nP e.symm
  have nS' : ¬ rb = S := fun e => nS e.symm
  clear hv
  go_enter Tryd.func60, Tryd.ntmps60
  go_wp2_with fail
  go_loopw [6] (fun x wr => ∃ (m q : Nat), x = .int .i64 m ∧ k < m ∧ m ≤ l.length + 1 ∧ wr = w.drewN q ∧ Hid (firstFrom l c (k + 1) = firstFrom l c m)) (fun x _ => l.length + 1 - (intOf x).toNat)
  case atStart => exact ⟨k + 1, 0, by go_num, by omega, by omega, rfl, rfl⟩
  case round =>
    obtain ⟨m, q, rfl, hz1, hz2, rfl, HR⟩ := hrel
    by_cases hml : m < l.length
    · obtain ⟨g, rfl, hg, cg⟩ := HROW.out m hml
      have hb1 : (m : Int) < l.length := by omega
      have hb0 : (0 : Int) ≤ m := by omega
      have HST := Go.Lib.hid (firstFrom_step l c m hml)
      by_cases e : nth l m = c
      · have HF : Hid (mvR false l c k = (m : Nat)) := by
          have h1 := HST.out
          rw [if_pos e] at h1
          rw [Hid, mvR, if_neg (by decide), HR.out, h1]
        have e' : (nth l m == c) = true := by simp [e]
        generalize nth l m = x at cg e' HST
        clear e HST
        have HT := Go.Lib.hid (mv_some HF.out short)
        cases short
        · go_wp2_with fail
          go_quiet (fail)
          go_wp2_with fail
          go_returns
          refine ⟨rfl, (w.drewN (q + nq)).setCell ⟨rb, 1, none⟩ (.int .i64 (m : Nat)), ?_, ((Own.refl _ _).drewN _).set _ _, Below.heap_setCell _ _ _ _ nS, ?_⟩
          · rw [HT.out.2]; exact (HV.out.below (below_drewN (Below.refl _ _) _)).idx2 m
          · rw [HT.out.1]; rfl
        · have hw : IntKind.i64.wrap ((m : Int) - 1) = ((m - 1 : Nat) : Int) := by rw [IntWalk.i64_in _ (by omega)]; omega
          have HV2 : Hid (RBv w rb l k kept (some ⟨g, 0, none⟩) cap B cap2) := HV.out
          obtain ⟨m2, hm2⟩ : ∃ m2, m2 = m - 1 := ⟨_, rfl⟩
          have HK : Hid (mvK true false l c k = m2) := by rw [Hid, (mv_some HF.out true).2, hm2]; rfl
          have HM2 := Go.Lib.hid hm2
          rw [← hm2] at hw
          clear hm2
          go_wp2_with fail
          go_quiet (fail)
          go_wp2_with fail
          go_returns
          refine ⟨rfl, ((w.drewN (q + nq)).setCell ⟨rb, 1, none⟩ (.int .i64 (m : Nat))).setCell ⟨rb, 1, none⟩ (.int .i64 (m2 : Nat)), ?_, (((Own.refl _ _).drewN _).set _ _).set _ _, ?_, ?_⟩
          · rw [HK.out]; exact ((HV2.out.below (below_drewN (Below.refl _ _) _)).idx2 m).idx m2
          · rw [Below.heap_setCell _ _ _ _ nS, Below.heap_setCell _ _ _ _ nS]; rfl
          · rw [HT.out.1]; rfl
      · have HF : Hid (firstFrom l c (k + 1) = firstFrom l c (m + 1)) := by
          have h1 := HST.out
          rw [if_neg e] at h1
          rw [Hid, HR.out, h1]
        have e' : (nth l m == c) = false := by simp [e]
        generalize nth l m = x at cg e' HST
        clear e HST
        go_wp2_with fail
        go_quiet (fail)
        go_wp2_with fail
        go_roundw
        case rel => exact ⟨m + 1, q + nq, by go_num, by omega, by omega, rfl, HF.out⟩
        case measure => simp [intOf] <;> omega
    · have HF : Hid (mvR false l c k = -1) := by
        rw [Hid, mvR, if_neg (by decide), HR.out, firstFrom_end l c m (by omega)]
      have HT := Go.Lib.hid (mv_none HF.out short)
      have hz' : ¬ (m : Int) < l.length := by omega
      go_wp2_with fail
      go_returns
      refine ⟨rfl, w.drewN q, ?_, (Own.refl _ _).drewN _, rfl, ?_⟩
      · rw [HT.out.2]; exact ⟨_, _, _, _, HV.out.below (below_drewN (Below.refl _ _) _)⟩
      · rw [HT.out.1]; rfl

theorem moveto_cl (rb R N C P S : Nat) (short back : Bool) (c : Int) (l : List Int) (k : Nat) (kept : List Int) (w : World) (h : RB w rb l k kept) (hk : k ≤ l.length) (hl : l.length ≤ 100000)
    (cR : w.cell? ⟨R, 0, none⟩ = some (.bool back)) (cN : w.cell? ⟨N, 0, none⟩ = some (.pointer (some ⟨rb, 0, none⟩))) (cC : w.cell? ⟨C, 0, none⟩ = some (.int .i32 c)) (cP : w.cell? ⟨P, 0, none⟩ = some (.bool short)) (fS : w.frozen? ⟨S, 0, none⟩ = false)
    (cS : w.cell? ⟨S, 0, none⟩ = some (.bool false)) (nN : N ≠ rb) (nP : P ≠ rb) (nS : S ≠ rb) (hS : S < w.heap.size) (hN : N < w.heap.size) (hP : P < w.heap.size) :
    Calls Tryd.prog 60 #[.pointer (some ⟨R, 0, none⟩), .pointer (some ⟨N, 0, none⟩), .pointer (some ⟨C, 0, none⟩), .pointer (some ⟨P, 0, none⟩), .pointer (some ⟨S, 0, none⟩)] w (MvPost rb S (mvT back l c k) l (mvK short back l c k) kept w) := by
  cases back
  · exact moveto_on rb R N C P S short c l k kept w h hk hl cR cN cC cP fS cS nN nP nS hS hN hP
  · exact moveto_back rb R N C P S short c l k kept w h hk hl cR cN cC cP fS cS nN nP nS hS hN hP

/-- A variable of the call's own, set at the end of a step. -/
theorem moved_set {rb S : Nat} {l : List Int} {k : Nat} {kept : List Int} {T : Bool} {w0 w w2 w' : World} (h : RB w2 rb l k kept) (o : Own rb w w2) (hw : w' = if T then w2.setCell ⟨S, 0, none⟩ (.bool true) else w2) (hS : rb < S) (hni : ¬ I32 w2 S) (o0 : Own rb w0 w) (hz : w0.heap.size ≤ S) :
    RB w' rb l k kept ∧ Own rb w0 w' := by
  subst hw
  cases T
  · exact ⟨h, o0.trans o⟩
  · refine ⟨h.same (by simp [World.setCell]) fun j hj h2 => Below.heap_setCell _ _ _ _ ?_, ?_⟩
    · rintro rfl
      rcases h2 with h2 | h2
      · omega
      · exact hni h2.2
    · have oo := o0.trans o
      exact ⟨oo.os, oo.tape, oo.output, by simpa [World.setCell] using oo.size, fun j hj h1 h2 => (Below.heap_setCell _ _ _ _ (by show j ≠ S; omega)).trans (oo.rest j hj h1 h2)⟩

theorem moveto_any (rb : Nat) (short back : Bool) (c : Int) (l : List Int) (k : Nat) (kept : List Int) (w : World) (h : RB w rb l k kept) (hk : k ≤ l.length) (hl : l.length ≤ 100000) :
    Calls Tryd.prog 43 #[.pointer (some ⟨rb, 0, none⟩), .int .i32 c, .bool short, .bool back] w fun e w' => e = .returned (.bool (mvT back l c k)) ∧ (RB w' rb l (mvK short back l c k) kept ∧ Own rb w w') := by
  have eg : ∀ args w, (callFunc 60 args).run Tryd.prog w = .ok (.enter 60 args) w := fun _ _ => by kernel_rfl
  have hmf : ∀ (fn : Fn) (first cap : Array Value) (w : World), (Instr.makeFunc fn first cap).run Tryd.prog w = .ok (.func fn first cap) w := fun _ _ _ _ => rfl
  have hsz : rb < w.heap.size := by obtain ⟨_, _, _, _, h⟩ := h; exact h.sz
  obtain ⟨W, hW⟩ : ∃ W, W = ((((w.alloc (.cells #[.pointer (some ⟨rb, 0, none⟩)] 46)).alloc (.cells #[.int .i32 c] 21)).alloc (.cells #[.bool short] 4)).alloc (.cells #[.bool back] 4)).alloc (.cells #[.bool false] 4) := ⟨_, rfl⟩
  have hbW : Below w.heap.size w W := by rw [hW]; exact (((((Below.refl _ _).alloc (Nat.le_refl _) _).alloc (by simp) _).alloc (by simp; omega) _).alloc (by simp; omega) _).alloc (by simp; omega) _
  have zW : W.heap.size = w.heap.size + 1 + 1 + 1 + 1 + 1 := by rw [hW]; simp
  have niS : ¬ I32 W (w.heap.size + 1 + 1 + 1 + 1) := by
    rintro ⟨cur, fr, e⟩
    rw [hW] at e
    have e0 := heap_alloc_new ((((w.alloc (.cells #[.pointer (some ⟨rb, 0, none⟩)] 46)).alloc (.cells #[.int .i32 c] 21)).alloc (.cells #[.bool short] 4)).alloc (.cells #[.bool back] 4)) (.cells #[.bool false] 4)
    rw [show ((((w.alloc (.cells #[.pointer (some ⟨rb, 0, none⟩)] 46)).alloc (.cells #[.int .i32 c] 21)).alloc (.cells #[.bool short] 4)).alloc (.cells #[.bool back] 4)).heap.size = w.heap.size + 1 + 1 + 1 + 1 by simp] at e0
    rw [e0] at e
    simp at e
  have q0 : W.cell? ⟨w.heap.size, 0, none⟩ = some (.pointer (some ⟨rb, 0, none⟩)) := by rw [hW]; simp [go_sem]
  have q1 : W.cell? ⟨w.heap.size + 1, 0, none⟩ = some (.int .i32 c) := by rw [hW]; simp [go_sem]
  have q2 : W.cell? ⟨w.heap.size + 1 + 1, 0, none⟩ = some (.bool short) := by rw [hW]; simp [go_sem]
  have q3 : W.cell? ⟨w.heap.size + 1 + 1 + 1, 0, none⟩ = some (.bool back) := by rw [hW]; simp [go_sem]
  have q4 : W.cell? ⟨w.heap.size + 1 + 1 + 1 + 1, 0, none⟩ = some (.bool false) := by rw [hW]; simp [go_sem]
  have q5 : W.frozen? ⟨w.heap.size + 1 + 1 + 1 + 1, 0, none⟩ = false := by rw [hW]; simp [go_sem]
  have HR := Go.Lib.hid (moveto_cl rb (w.heap.size + 1 + 1 + 1) w.heap.size (w.heap.size + 1) (w.heap.size + 1 + 1) (w.heap.size + 1 + 1 + 1 + 1) short back c l k kept W (h.below hbW) hk hl q3 q0 q1 q2 q5 q4 (by omega) (by omega) (by omega) (by omega) (by omega) (by omega))
  have OW := Go.Lib.hid (Own.of (rb := rb) hbW)
  have NI := Go.Lib.hid niS
  have Q4 := Go.Lib.hid q4
  have HREF := Go.Lib.hid (refresh_of rb 60 #[.pointer (some ⟨w.heap.size + 1 + 1 + 1, 0, none⟩), .pointer (some ⟨w.heap.size, 0, none⟩), .pointer (some ⟨w.heap.size + 1, 0, none⟩), .pointer (some ⟨w.heap.size + 1 + 1, 0, none⟩), .pointer (some ⟨w.heap.size + 1 + 1 + 1 + 1, 0, none⟩)] W eg (HR.out.mono fun e w' h => ⟨h.1, h⟩))
  rw [hW] at HREF
  clear h eg hbW niS q0 q1 q2 q3 q4 q5 HR
  obtain ⟨T, hT⟩ : ∃ T, T = mvT back l c k := ⟨_, rfl⟩
  rw [← hT] at HREF ⊢
  obtain ⟨k', hk'⟩ : ∃ k', k' = mvK short back l c k := ⟨_, rfl⟩
  rw [← hk'] at HREF ⊢
  clear hT hk'
  have HWW := Go.Lib.hid hW
  clear hW
  go_enter Tryd.func43, Tryd.ntmps43
  go_wp2_with fail
  refine HREF.out.mono ?_
  rintro e w1 ⟨rfl, -, w2, hrb, ho, hbl, hw⟩
  rw [← HWW.out] at ho hbl
  have niS2 : ¬ I32 w2 (w.heap.size + 1 + 1 + 1 + 1) := fun h => NI.out (h.of hbl.symm)
  obtain ⟨h1, o1⟩ := moved_set hrb ho hw (by omega) niS2 OW.out (by omega)
  have hcell : w1.cell? ⟨w.heap.size + 1 + 1 + 1 + 1, 0, none⟩ = some (.bool T) := by
    have c2 : w2.cell? ⟨w.heap.size + 1 + 1 + 1 + 1, 0, none⟩ = some (.bool false) := (World.cell?_of_block (w := W) hbl).trans Q4.out
    rw [hw]
    cases T
    · exact c2
    · exact World.cell?_setCell_same' _ _ _ (by rw [c2]; rfl)
  have H1 := Go.Lib.hid h1
  have O1 := Go.Lib.hid o1
  clear h1 o1 hrb ho hbl hw niS2
  go_wp2_with fail
  refine bodyPost_ret (v := .bool T) (by simp [results, Tryd.results43, go_sem, hcell]) rfl ⟨rfl, H1.out, O1.out⟩
end Go.Proofs.YtoimdbmjpkmkfaaDoor
