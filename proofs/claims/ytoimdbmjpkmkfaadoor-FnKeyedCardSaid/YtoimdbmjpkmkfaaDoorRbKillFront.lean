/- RuneBuffer.KillFront. -/
import Derived.Test.YtoimdbmjpkmkfaaDoorRbWords
import Derived.Laws.CopyRow
import Derived.Laws.IdiomCopy
namespace Go.Proofs.YtoimdbmjpkmkfaaDoor
open Go.RowKit
set_option linter.unusedVariables false
set_option linter.unusedSimpArgs false

theorem set_otherR {w : World} {eb : Nat} {j i : Nat} {u : Value} (h : i ≠ j) : (w.setCell ⟨eb, j, none⟩ u).cell? ⟨eb, i, none⟩ = w.cell? ⟨eb, i, none⟩ := World.cell?_setCell_other _ _ _ _ (by intro e; injection e with _ e2; first | exact h e2 | exact h e2.symm)
theorem set_sameR {w : World} {eb : Nat} {j : Nat} {u v : Value} (h : w.cell? ⟨eb, j, none⟩ = some v) : (w.setCell ⟨eb, j, none⟩ u).cell? ⟨eb, j, none⟩ = some u := World.cell?_setCell_same' _ _ _ (by rw [h]; rfl)
theorem fromA_zero (A : Option Addr) (cap : Nat) : fromA A cap 0 = A := by
  unfold fromA
  split
  · rfl
  · cases A <;> simp [Addr.add]
/-- copy at a step of a region that draws, by its run. -/
theorem step_copy_run {P : Program} {ops : Array Oper} {o : Oper} {a : Act} {w w' : World} {K : Act → World → Prop} {Q : Exit → Act → World → Prop} {E : Prop} (hg : o.guard = none) (s x : Operand) (t : TypeId)
    (hop : o.op = .call { callee := .builtin .copy, args := #[s, x], argTypes := #[t, t] }) (v1 v2 v : Value) (hs : a.eval s = v1) (hx : a.eval x = v2)
    (hrun : (Builtin.copy_ #[t, t] o.type #[v1, v2]).run P w = .ok v w') (hK : K (a.put o.dst v) w') :
    if Region.wanted o (yielded ops a.tmps) = true then Oper.wp P o a w K Q else E := by
  have hw : Region.wanted o (yielded ops a.tmps) = true := by simp [Region.wanted, hg]
  rw [if_pos hw]
  unfold Oper.wp
  simp [execOp, hop, resolve, invoke, builtin, hs, hx, hrun, Result.andThen]
  exact hK

theorem wpList_copy_run {P : Program} {ops : Array Oper} {rest : List Oper} {o : Oper} {a : Act} {w w' : World} {Q : Exit → Act → World → Prop} (hg : o.guard = none) (s x : Operand) (t : TypeId)
    (hop : o.op = .call { callee := .builtin .copy, args := #[s, x], argTypes := #[t, t] }) (v1 v2 v : Value) (hs : a.eval s = v1) (hx : a.eval x = v2)
    (hrun : (Builtin.copy_ #[t, t] o.type #[v1, v2]).run P w = .ok v w') (h : wpList P ops Q rest (a.put o.dst v) w') : wpList P ops Q (o :: rest) a w :=
  wpList_plain hg fun K hK => by
    unfold Oper.wp
    simp [execOp, hop, resolve, invoke, builtin, hs, hx, hrun, Result.andThen]
    exact hK _ _ h

theorem setRow_block (w : World) (g k : Nat) (cs : Array Value) (h : k ≠ g) : (w.setRow g cs).heap[k]? = w.heap[k]? := by
  unfold World.setRow
  simp [Array.getElem?_modify]
  intro e; exact absurd e.symm h

/-- What stands behind the cursor, moved to the line's beginning. -/
theorem front_run {w : World} {rb : Nat} {l : List Int} {k : Nat} {kept : List Int} {A : Option Addr} {cap : Nat} {B : Option Addr} {cap2 : Nat} (h : RBv w rb l k kept A cap B cap2) (hk : k ≤ l.length) (ty : TypeId) :
    ∃ v w', (Builtin.copy_ #[38, 38] ty #[.slice A (l.length - k) cap, .slice (fromA A cap k) (l.length - k) (cap - k)]).run Tryd.prog w = .ok v w' ∧
      Row w' (rb + 1) A cap (l.drop k) ∧ w'.os = w.os ∧ w'.tape = w.tape ∧ w'.output = w.output ∧ w.heap.size = w'.heap.size ∧ ∀ i, i < w.heap.size → blk A ≠ some i → w'.heap[i]? = w.heap[i]? := by
  have hu : Tryd.prog.underlying 38 = some (.slice 21) := Tryd.underlying38
  have hs : (Tryd.prog.info? 21).map (·.size) = some 1 := by kernel_rfl
  by_cases he : l.length - k = 0
  · refine ⟨_, w, run_copy_none (P := Tryd.prog) w 38 38 ty 21 A (fromA A cap k) (l.length - k) cap (l.length - k) (cap - k) hu hs (by rw [he]; rfl), ?_, rfl, rfl, rfl, rfl, fun _ _ _ => rfl⟩
    have := h.r0.take 0 (by omega)
    rwa [List.take_zero, show ([] : List Int) = l.drop k from (List.drop_eq_nil_of_le (by omega)).symm] at this
  · have h0 := h.r0
    rcases h0.2 with ⟨_, h2⟩ | ⟨g, c, cur, hv, hg, hh, hn, hcm, hcs, htk⟩
    · omega
    · cases hv
      have hsrc := (row_src h.r0 k l.length hk (Nat.le_refl _)).2
      rw [List.take_length] at hsrc
      have hlen : (i32s (l.drop k)).length = l.length - k := by simp [i32s]
      rcases hsrc with ⟨_, h3, _⟩ | ⟨ad, had, hcell⟩
      · have := congrArg List.length h3; simp at this; omega
      · rw [had]
        have hrun := run_copy_row (P := Tryd.prog) w 38 38 ty 21 g 0 (l.length - k) cap ad (l.length - k) (cap - k) cur 21 (i32s (l.drop k)) hu hs hh (by rw [hlen]; exact (Nat.min_self _).symm) hcell (by rw [hlen, hcs]; omega) (i32s_one _)
        refine ⟨_, _, hrun, ?_, rfl, rfl, rfl, by simp [World.setRow], fun i hi hne => setRow_block _ _ _ _ (fun e => hne (by rw [e]; rfl))⟩
        rw [hlen]
        refine ⟨by simp [i32s], .inr ⟨g, cap, (cur.toList.take 0 ++ i32s (l.drop k) ++ cur.toList.drop (0 + (l.length - k))).toArray, by simp, hg, ?_, by simp; omega, hcm, ?_, ?_⟩⟩
        · unfold World.setRow
          simp [Array.getElem?_modify, hh]
        · have : cur.toList.length = cap := by simpa using hcs
          simp [hlen]; omega
        · simp [List.take_append, hlen]

theorem RBv.front {w w' : World} {rb : Nat} {l l' : List Int} {k : Nat} {kept : List Int} {A : Option Addr} {cap : Nat} {B : Option Addr} {cap2 : Nat} (h : RBv w rb l k kept A cap B cap2) (hr : Row w' (rb + 1) A cap l') (ho : w'.os = w.os ∧ w'.tape = w.tape ∧ w'.output = w.output) (hz : w.heap.size = w'.heap.size) (hb : ∀ i, i < w.heap.size → blk A ≠ some i → w'.heap[i]? = w.heap[i]?) :
    (∀ j, w'.cell? ⟨rb, j, none⟩ = w.cell? ⟨rb, j, none⟩) ∧ RBv ((w'.setCell ⟨rb, 1, none⟩ (.int .i64 0)).setCell ⟨rb, 0, none⟩ (.slice A l'.length cap)) rb l' 0 kept A cap B cap2 ∧ Own rb w w' := by
  have hblk : ∀ g, blk A = some g → rb < g ∧ I32 w g := fun g hg => ⟨(h.r0.blk_lt hg).1, (h.r0.blk_lt hg).2.2⟩
  have e : w'.heap[rb]? = w.heap[rb]? := hb rb h.sz (fun e => by have := (hblk rb e).1; omega)
  have c : ∀ j, w'.cell? ⟨rb, j, none⟩ = w.cell? ⟨rb, j, none⟩ := fun j => World.cell?_of_block (w := w) e
  have r10 : Row w' (rb + 1) B cap2 kept := h.r10.kept fun k h1 h2 _ h3 => hb k h2 (fun e => h.ap k e h3)
  refine ⟨c, ?_, ⟨ho.1, ho.2.1, ho.2.2, by omega, fun i hi h1 h2 => hb i hi fun e => ?_⟩⟩
  · refine ⟨set_sameR ((set_otherR (by decide)).trans ((c 0).trans h.c0)), (set_otherR (by decide)).trans (set_sameR ((c 1).trans h.c1)), (set_otherR (by decide)).trans ((set_otherR (by decide)).trans ((c 10).trans h.c10)), (hr.set _ _).set _ _, (r10.set _ _).set _ _, h.ap, fun j => ?_, by simp [World.setCell]; have := h.sz; omega, fun h' => h.ni ((i32_setCell (i32_setCell h')).of e.symm)⟩
    rw [World.frozen?_setCell, World.frozen?_setCell]
    exact (World.frozen?_of_block (w := w) e).trans (h.f j)
  · obtain ⟨h3, h4⟩ := hblk i e
    rcases h2 with h2 | h2
    · omega
    · exact h2 h4

set_option maxRecDepth 100000 in
set_option maxHeartbeats 4000000 in
theorem killfront_cl (rb N : Nat) (l : List Int) (k : Nat) (kept : List Int) (w : World) (h : RB w rb l k kept) (hN : Cap w rb N) (hk : k ≤ l.length) (hk0 : 0 < k) (hl : l.length ≤ 100000) :
    Calls Tryd.prog 80 #[.pointer (some ⟨N, 0, none⟩)] w fun e w' => e = .returned (.tuple #[]) ∧ (RB w' rb (l.drop k) 0 ((l.take k).drop 0) ∧ Own rb w w') := by
  obtain ⟨A, cap, B, cap2, hv⟩ := h
  have HV := Go.Lib.hid hv
  have HN := Go.Lib.hid hN
  have hle : l.length ≤ cap := hv.r0.le
  have e0 : ((k : Int) == 0) = false := by simp; omega
  have c0 := hv.c0
  have c1 := hv.c1
  have cN := hN.c
  obtain ⟨n, hn⟩ : ∃ n, n = l.length - k := ⟨_, rfl⟩
  have hw : IntKind.i64.wrap ((l.length : Int) - (k : Int)) = (n : Nat) := by rw [IntWalk.i64_in _ (by omega)]; omega
  have hs1 := up_run A l.length cap k (by omega)
  have hs2 := up_run A l.length cap n (by omega)
  have hs3 := from_run A l.length cap k hk
  have Hn := Go.Lib.hid hn
  rw [← hn] at hs3
  clear hv hN hn
  go_enter Tryd.func80, Tryd.ntmps80
  go_wp2_with fail
  go_quiet (fail)
  have HVQ : Hid (RBv (w.drewN nq) rb l k kept A cap B cap2) := HV.out.below (below_drewN (Below.refl _ _) _)
  have HNQ : Hid (Cap (w.drewN nq) rb N) := HN.out.own ((Own.refl _ _).drewN _)
  have OQ : Hid (Own rb w (w.drewN nq)) := (Own.refl _ _).drewN _
  clear c0 c1 cN
  generalize w.drewN nq = wq at HVQ HNQ OQ ⊢
  have c0 := HVQ.out.c0
  have c1 := HVQ.out.c1
  have cN := HNQ.out.c
  go_wp2_with fail
  refine region_quiet_tail 10 (by kernel_rfl) (by kernel_rfl) ?_
  simp only [List.take_succ_cons, List.take_zero, List.drop_succ_cons, List.drop_zero]
  repeat (go_big_quiet_step (fail))
  refine wpQuiet_nil ?_
  intro _ hw'
  obtain ⟨nq, hw''⟩ := hw'
  subst hw''
  have HV1 : Hid (RBv (wq.drewN nq) rb l k kept A cap B cap2) := HVQ.out.below (below_drewN (Below.refl _ _) _)
  have hsrc := row_src HV1.out.r0 0 k (by omega) hk
  rw [fromA_zero] at hsrc
  rw [Nat.sub_zero, Nat.sub_zero] at hsrc
  have HSRC := Go.Lib.hid hsrc
  clear hsrc
  go_wp2_with fail
  refine (push_kill HV1.out _ _ _ _ HSRC.out (by simp; omega)).mono ?_
  rintro e w1 ⟨rfl, ⟨B', cap', h1⟩, o1⟩
  have H1 := Go.Lib.hid h1
  have O1 : Hid (Own rb w w1) := (OQ.out.drewN nq).trans o1
  have HN1 : Hid (Cap w1 rb N) := HN.out.own O1.out
  clear h1 o1 c0 c1 cN
  have c0 := H1.out.c0
  have c1 := H1.out.c1
  have cN := HN1.out.c
  go_wp2_with fail
  refine region_quiet_tail 15 (by kernel_rfl) (by kernel_rfl) ?_
  simp only [List.take_succ_cons, List.take_zero, List.drop_succ_cons, List.drop_zero]
  repeat (go_big_quiet_step (fail))
  refine wpQuiet_nil ?_
  intro _ hw'
  obtain ⟨nq, hw''⟩ := hw'
  subst hw''
  obtain ⟨v, w', hrun, hrow, q1, q2, q3, q4, q5⟩ := front_run (H1.out.below (below_drewN (Below.refl _ _) nq)) hk 3
  obtain ⟨hc, hv2, ho⟩ := (H1.out.below (below_drewN (Below.refl _ _) nq)).front hrow ⟨q1, q2, q3⟩ q4 q5
  rw [← Hn.out] at hrun
  have hlen : (l.drop k).length = n := by rw [List.length_drop]; exact Hn.out.symm
  rw [hlen] at hv2
  have HV2 := Go.Lib.hid hv2
  have O2 : Hid (Own rb w w') := (O1.out.drewN nq).trans ho
  have cN2 := ((HN1.out.own ((Own.refl rb w1).drewN nq)).own ho).c
  have d0 := (hc 0).trans H1.out.c0
  have d1 := (hc 1).trans H1.out.c1
  have fr : ∀ j, w'.frozen? ⟨rb, j, none⟩ = false := fun j => by
    have := hv2.f j
    rwa [World.frozen?_setCell, World.frozen?_setCell] at this
  have f0 := fr 0
  have f1 := fr 1
  have neN := HN1.out.ne
  have zz : rb < w'.heap.size := Nat.lt_of_lt_of_le HV.out.sz O2.out.size
  have HRUN := Go.Lib.hid hrun
  clear hv2 ho hc hrun hrow q1 q2 q3 q4 q5 hlen fr
  go_wp2_with (refine wpList_copy_run (by rfl) (.tmp 33) (.tmp 42) _ (by rfl) _ _ _ (by rfl) (by rfl) HRUN.out ?_)
  refine region_quiet_tail 9 (by kernel_rfl) (by kernel_rfl) ?_
  simp only [List.take_succ_cons, List.take_zero, List.drop_succ_cons, List.drop_zero]
  repeat (go_big_quiet_step (fail))
  refine wpQuiet_nil ?_
  intro _ hw'
  obtain ⟨nq, hw''⟩ := hw'
  subst hw''
  go_wp2_with fail
  go_returns
  exact ⟨rfl, ⟨_, _, _, _, HV2.out.same (Nat.le_refl _) (fun _ _ _ => rfl)⟩, ((O2.out.set _ _).drewN _).set _ _⟩

theorem killfront_any (rb : Nat) (l : List Int) (k : Nat) (kept : List Int) (w : World) (h : RB w rb l k kept) (hk : k ≤ l.length) (hk0 : 0 < k) (hl : l.length ≤ 100000) :
    Calls Tryd.prog 69 #[.pointer (some ⟨rb, 0, none⟩)] w fun e w' => e = .returned (.tuple #[]) ∧ (RB w' rb (l.drop k) 0 ((l.take k).drop 0) ∧ Own rb w w') := by
  have eg : ∀ args w, (callFunc 80 args).run Tryd.prog w = .ok (.enter 80 args) w := fun _ _ => by kernel_rfl
  have hmf : ∀ (fn : Fn) (first cap : Array Value) (w : World), (Instr.makeFunc fn first cap).run Tryd.prog w = .ok (.func fn first cap) w := fun _ _ _ _ => rfl
  have hsz : rb < w.heap.size := by obtain ⟨_, _, _, _, h⟩ := h; exact h.sz
  have HR := Go.Lib.hid (refresh rb 80 #[.pointer (some ⟨w.heap.size, 0, none⟩)] (w.alloc (.cells #[.pointer (some ⟨rb, 0, none⟩)] 46)) _ eg
    (killfront_cl rb w.heap.size l k kept _ (h.below ((Below.refl _ _).alloc (Nat.le_refl _) _)) (cap_new w rb _ (by decide) hsz) hk hk0 hl))
  clear h eg
  go_enter Tryd.func69, Tryd.ntmps69
  go_wp2_with fail
  refine HR.out.mono ?_
  rintro e w1 ⟨rfl, h1, o1⟩
  have H1 := Go.Lib.hid h1
  clear h1
  go_wp2_with fail
  go_returns
  exact ⟨rfl, H1.out, ((Own.refl _ _).alloc _).trans o1⟩
end Go.Proofs.YtoimdbmjpkmkfaaDoor
