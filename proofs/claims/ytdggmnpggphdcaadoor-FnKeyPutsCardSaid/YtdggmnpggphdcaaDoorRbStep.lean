/- Steps of a rune buffer: Refresh, and the closures of MoveForward, MoveBackward, Backspace, Delete, Kill, WriteRunes, SetWithIdx. -/
import Derived.Test.YtdggmnpggphdcaaDoorRbBase
namespace Go.Proofs.YtdggmnpggphdcaaDoor
open Go.RowKit
set_option linter.unusedVariables false
set_option linter.unusedSimpArgs false

/-- append at a step of a region that draws, by its run. -/
theorem step_append_run {P : Program} {ops : Array Oper} {o : Oper} {a : Act} {w w' : World} {K : Act → World → Prop} {Q : Exit → Act → World → Prop} {E : Prop} (hg : o.guard = none) (s x : Operand) (t : TypeId)
    (hop : o.op = .call { callee := .builtin .append, args := #[s, x], argTypes := #[t, t] }) (v1 v2 v : Value) (hs : a.eval s = v1) (hx : a.eval x = v2)
    (hrun : (Builtin.append_ #[t, t] o.type #[v1, v2]).run P w = .ok v w') (hK : K (a.put o.dst v) w') :
    if Region.wanted o (yielded ops a.tmps) = true then Oper.wp P o a w K Q else E := by
  have hw : Region.wanted o (yielded ops a.tmps) = true := by simp [Region.wanted, hg]
  rw [if_pos hw]
  unfold Oper.wp
  simp [execOp, hop, resolve, invoke, builtin, hs, hx, hrun, Result.andThen]
  exact hK
/-- append at a plain list of operations, by its run. -/
theorem wpList_append_run {P : Program} {ops : Array Oper} {rest : List Oper} {o : Oper} {a : Act} {w w' : World} {Q : Exit → Act → World → Prop} (hg : o.guard = none) (s x : Operand) (t : TypeId)
    (hop : o.op = .call { callee := .builtin .append, args := #[s, x], argTypes := #[t, t] }) (v1 v2 v : Value) (hs : a.eval s = v1) (hx : a.eval x = v2)
    (hrun : (Builtin.append_ #[t, t] o.type #[v1, v2]).run P w = .ok v w') (h : wpList P ops Q rest (a.put o.dst v) w') : wpList P ops Q (o :: rest) a w :=
  wpList_plain hg fun K hK => by
    unfold Oper.wp
    simp [execOp, hop, resolve, invoke, builtin, hs, hx, hrun, Result.andThen]
    exact hK _ _ h

/-- A variable that a closure captured: the buffer's address. -/
structure Cap (w : World) (rb N : Nat) : Prop where
  c : w.cell? ⟨N, 0, none⟩ = some (.pointer (some ⟨rb, 0, none⟩))
  lt : N < w.heap.size
  ne : N ≠ rb
  ni : ¬ I32 w N
theorem Cap.own {w w' : World} {rb N : Nat} (h : Cap w rb N) (ho : Own rb w w') : Cap w' rb N := by
  have e := ho.rest N h.lt h.ne (.inr h.ni)
  exact ⟨(World.cell?_of_block (w := w) e).trans h.c, Nat.lt_of_lt_of_le h.lt ho.size, h.ne, fun h' => h.ni (h'.of e.symm)⟩
theorem cap_new (w : World) (rb : Nat) (T : TypeId) (hT : T ≠ 21) (h : rb < w.heap.size) : Cap (w.alloc (.cells #[.pointer (some ⟨rb, 0, none⟩)] T)) rb w.heap.size :=
  ⟨by simp [go_sem], by simp, by omega, fun ⟨cur, fr, e⟩ => by
    rw [heap_alloc_new] at e
    simp at e
    exact hT e.2.1⟩

theorem refresh (rb f : Nat) (caps : Array Value) (w : World) (R : World → Prop) (eg : ∀ args w, (callFunc f args).run Tryd.prog w = .ok (.enter f args) w)
    (h : Calls Tryd.prog f caps w fun e w' => e = .returned (.tuple #[]) ∧ R w') :
    Calls Tryd.prog 52 #[.pointer (some ⟨rb, 0, none⟩), .func (.func f) #[] caps] w fun e w' => e = .returned (.tuple #[]) ∧ R w' := by
  have H := Go.Lib.hid h
  clear h
  have hne : ∀ w, (binOp .neq 1 (.func (.func f) #[] caps) .nilFunc).run Tryd.prog w = .ok (.bool true) w := fun w => by kernel_rfl
  go_enter Tryd.func52, Tryd.ntmps52
  go_wp2_with fail
  refine H.out.mono ?_
  rintro e w1 ⟨rfl, hR⟩
  have HR := Go.Lib.hid hR
  clear hR
  go_wp2_with fail
  go_returns
  exact ⟨rfl, HR.out⟩

theorem forward_cl (rb N : Nat) (l : List Int) (k : Nat) (kept : List Int) (w : World) (h : RB w rb l k kept) (hN : Cap w rb N) (hk : k ≤ l.length) (hl : l.length ≤ 100000) :
    Calls Tryd.prog 53 #[.pointer (some ⟨N, 0, none⟩)] w fun e w' => e = .returned (.tuple #[]) ∧ (RB w' rb l (min (k + 1) l.length) kept ∧ Own rb w w') := by
  obtain ⟨A, cap, B, cap2, hv⟩ := h
  have HV := Go.Lib.hid hv
  have HN := Go.Lib.hid hN
  obtain ⟨c0, c1, -, -, -, -, f, sz, -⟩ := hv
  obtain ⟨cN, ltN, neN, -⟩ := hN
  have f1 := f 1
  clear f
  by_cases e : k = l.length
  · subst e
    have hm : Hid (min (l.length + 1) l.length = l.length) := Nat.min_eq_right (by omega)
    go_enter Tryd.func53, Tryd.ntmps53
    go_wp2_with fail
    go_quiet (fail)
    go_wp2_with fail
    go_returns
    exact ⟨rfl, by rw [hm.out]; exact ⟨_, _, _, _, HV.out.below (below_drewN (Below.refl _ _) _)⟩, (Own.refl _ _).drewN _⟩
  · have hm : Hid (min (k + 1) l.length = k + 1) := Nat.min_eq_left (by omega)
    have e' : ((k : Int) == (l.length : Int)) = false := by simp; omega
    clear e
    go_enter Tryd.func53, Tryd.ntmps53
    go_wp2_with fail
    go_quiet (fail)
    go_wp2_with fail
    go_returns
    exact ⟨rfl, by rw [hm.out]; exact ⟨_, _, _, _, (HV.out.below (below_drewN (Below.refl _ _) _)).idx (k + 1)⟩, ((Own.refl _ _).drewN _).set _ _⟩

theorem backward_cl (rb N : Nat) (l : List Int) (k : Nat) (kept : List Int) (w : World) (h : RB w rb l k kept) (hN : Cap w rb N) (hk : k ≤ l.length) (hl : l.length ≤ 100000) :
    Calls Tryd.prog 54 #[.pointer (some ⟨N, 0, none⟩)] w fun e w' => e = .returned (.tuple #[]) ∧ (RB w' rb l (k - 1) kept ∧ Own rb w w') := by
  obtain ⟨A, cap, B, cap2, hv⟩ := h
  have HV := Go.Lib.hid hv
  have HN := Go.Lib.hid hN
  obtain ⟨c0, c1, -, -, -, -, f, sz, -⟩ := hv
  obtain ⟨cN, ltN, neN, -⟩ := hN
  have f1 := f 1
  clear f
  cases k with
  | zero =>
    have c1' : w.cell? ⟨rb, 1, none⟩ = some (.int .i64 0) := c1
    clear c1
    go_enter Tryd.func54, Tryd.ntmps54
    go_wp2_with fail
    go_returns
    exact ⟨rfl, ⟨_, _, _, _, HV.out⟩, Own.refl _ _⟩
  | succ k =>
    have e' : (((k + 1 : Nat) : Int) == 0) = false := by simp; omega
    have hw : IntKind.i64.wrap (((k + 1 : Nat) : Int) - 1) = (k : Nat) := by rw [IntWalk.i64_in _ (by omega)]; omega
    obtain ⟨m, hm⟩ : ∃ m, m = k + 1 := ⟨_, rfl⟩
    rw [← hm] at c1 e' hw
    have HM := Go.Lib.hid hm
    rw [← hm] at HV
    rw [← hm]
    clear hm
    go_enter Tryd.func54, Tryd.ntmps54
    go_wp2_with fail
    go_returns
    exact ⟨rfl, by rw [HM.out, Nat.add_sub_cancel]; exact ⟨_, _, _, _, HV.out.idx k⟩, (Own.refl _ _).set _ _⟩

/-- A method that does what its closure does. -/
theorem forward_any (rb : Nat) (l : List Int) (k : Nat) (kept : List Int) (w : World) (h : RB w rb l k kept) (hk : k ≤ l.length) (hl : l.length ≤ 100000) :
    Calls Tryd.prog 38 #[.pointer (some ⟨rb, 0, none⟩)] w fun e w' => e = .returned (.tuple #[]) ∧ (RB w' rb l (min (k + 1) l.length) kept ∧ Own rb w w') := by
  have eg : ∀ args w, (callFunc 53 args).run Tryd.prog w = .ok (.enter 53 args) w := fun _ _ => by kernel_rfl
  have hmf : ∀ (fn : Fn) (first cap : Array Value) (w : World), (Instr.makeFunc fn first cap).run Tryd.prog w = .ok (.func fn first cap) w := fun _ _ _ _ => rfl
  have hsz : rb < w.heap.size := by obtain ⟨_, _, _, _, h⟩ := h; exact h.sz
  have HR := Go.Lib.hid (refresh rb 53 #[.pointer (some ⟨w.heap.size, 0, none⟩)] (w.alloc (.cells #[.pointer (some ⟨rb, 0, none⟩)] 52)) _ eg
    (forward_cl rb w.heap.size l k kept _ (h.below ((Below.refl _ _).alloc (Nat.le_refl _) _)) (cap_new w rb _ (by decide) hsz) hk hl))
  clear h eg
  go_enter Tryd.func38, Tryd.ntmps38
  go_wp2_with fail
  refine HR.out.mono ?_
  rintro e w1 ⟨rfl, h1, o1⟩
  have H1 := Go.Lib.hid h1
  clear h1
  go_wp2_with fail
  go_returns
  exact ⟨rfl, H1.out, ((Own.refl _ _).alloc _).trans o1⟩

/-- A line without the sign at a place. -/
def cutAt (l : List Int) (j : Nat) : List Int := l.take j ++ l.drop (j + 1)

theorem up_run (A : Option Addr) (n cap i : Nat) (h : i ≤ cap) : ∀ w, (Instr.slice 39 (.slice A n cap) none (some (.int .i64 (i : Nat))) none).run Tryd.prog w = .ok (.slice A i cap) w := run_upto _ _ Tryd.underlying39 sizeI A n cap i h
theorem from_run (A : Option Addr) (n cap i : Nat) (h : i ≤ n) : ∀ w, (Instr.slice 39 (.slice A n cap) (some (.int .i64 (i : Nat))) none none).run Tryd.prog w = .ok (.slice (fromA A cap i) (n - i) (cap - i)) w := run_from _ _ Tryd.underlying39 sizeI A n cap i h

/-- 'append(buf[:i], buf[j:]..)', stored. -/
theorem cut_run {w : World} {rb : Nat} {l : List Int} {k : Nat} {kept : List Int} {A : Option Addr} {cap : Nat} {B : Option Addr} {cap2 : Nat} (h : RBv w rb l k kept A cap B cap2) (i j : Nat) (hi : i ≤ l.length) (hj : j ≤ l.length) (hl : l.length ≤ 100000) (l' : List Int) (hl' : l' = l.take i ++ l.drop j) :
    ∃ A' cap' w', (Builtin.append_ #[39, 39] 39 #[.slice A i cap, .slice (fromA A cap j) (l.length - j) (cap - j)]).run Tryd.prog w = .ok (.slice A' l'.length cap') w' ∧
      RBv (w'.setCell ⟨rb, 0, none⟩ (.slice A' l'.length cap')) rb l' k kept A' cap' B cap2 ∧ Own rb w (w'.setCell ⟨rb, 0, none⟩ (.slice A' l'.length cap')) ∧
      (∀ j, w'.cell? ⟨rb, j, none⟩ = w.cell? ⟨rb, j, none⟩) ∧ (∀ j, w'.frozen? ⟨rb, j, none⟩ = w.frozen? ⟨rb, j, none⟩) ∧ Own rb w w' := by
  subst hl'
  have hsrc := row_src h.r0 j l.length hj (Nat.le_refl _)
  rw [List.take_of_length_le (Nat.le_refl _)] at hsrc
  obtain ⟨A', cap', w', hrun, hrow, hg, hb⟩ := run_append_row w (rb + 1) A cap (l.take i) (h.r0.take i hi) _ _ _ _ hsrc (by have := h.sz; omega) (by simp; omega)
  have hli : (l.take i).length = i := by simp; omega
  rw [hli] at hrun
  obtain ⟨h1, h2, h3, h4, h5⟩ := h.appended hg hrow hb
  exact ⟨A', cap', w', hrun, h1, h2, h3, h4, h5⟩

set_option maxRecDepth 100000 in
set_option maxHeartbeats 4000000 in
theorem backspace_cl (rb N : Nat) (l : List Int) (k : Nat) (kept : List Int) (w : World) (h : RB w rb l k kept) (hN : Cap w rb N) (hk : k ≤ l.length) (hk0 : 0 < k) (hl : l.length ≤ 100000) :
    Calls Tryd.prog 59 #[.pointer (some ⟨N, 0, none⟩)] w fun e w' => e = .returned (.tuple #[]) ∧ (RB w' rb (cutAt l (k - 1)) (k - 1) kept ∧ Own rb w w') := by
  obtain ⟨A, cap, B, cap2, hv⟩ := h
  have HV := Go.Lib.hid hv
  have HN := Go.Lib.hid hN
  have hle := hv.r0.le
  have hcut : cutAt l (k - 1) = l.take (k - 1) ++ l.drop k := by unfold cutAt; rw [show k - 1 + 1 = k by omega]
  obtain ⟨j, hj⟩ : ∃ j, j = k - 1 := ⟨_, rfl⟩
  rw [← hj] at hcut ⊢
  have hs1 := up_run A l.length cap j (by omega)
  have hs2 := from_run A l.length cap k hk
  obtain ⟨l', hl'⟩ : ∃ x, x = cutAt l j := ⟨_, rfl⟩
  rw [← hl'] at hcut ⊢
  have HC := Go.Lib.hid hcut
  have hw : IntKind.i64.wrap ((k : Int) - 1) = (j : Int) := by rw [IntWalk.i64_in _ (by omega)]; omega
  have hw2 : IntKind.i64.wrap ((j : Int) + 1) = (k : Int) := by rw [IntWalk.i64_in _ (by omega)]; omega
  have hk1 : ((k : Int) == 0) = false := by simp; omega
  have hjl : j ≤ l.length := by omega
  obtain ⟨c0, c1, -, -, -, -, f, sz, -⟩ := hv
  have f1 := f 1
  obtain ⟨cN, ltN, neN, -⟩ := hN
  clear f hcut hl' hj
  go_enter Tryd.func59, Tryd.ntmps59
  go_wp2_with fail
  have HV1 : Hid (RBv (w.setCell ⟨rb, 1, none⟩ (.int .i64 (j : Nat))) rb l j kept A cap B cap2) := HV.out.idx j
  have HN1 : Hid (Cap (w.setCell ⟨rb, 1, none⟩ (.int .i64 (j : Nat))) rb N) := HN.out.own ((Own.refl rb w).set 1 _)
  have O1 : Hid (Own rb w (w.setCell ⟨rb, 1, none⟩ (.int .i64 (j : Nat)))) := (Own.refl rb w).set 1 _
  clear c0 c1 cN f1
  generalize (w.setCell ⟨rb, 1, none⟩ (.int .i64 (j : Nat))) = w1 at HV1 HN1 O1 ⊢
  have c0 := HV1.out.c0
  have c1 := HV1.out.c1
  have cN := HN1.out.c
  obtain ⟨A', cap', w', hrun, hR, hO, hcell, hfro, hO2⟩ := cut_run (HV1.out.below (Below.refl _ _).drew) j k hjl hk hl l' HC.out
  have cN2 := ((HN1.out.own (Own.refl rb w1).drew).own hO2).c
  have HR := Go.Lib.hid hR
  have HO : Hid (Own rb w (w'.setCell ⟨rb, 0, none⟩ (.slice A' l'.length cap'))) := O1.out.drew.trans hO
  have q0 := (hcell 0).trans HV1.out.c0
  have q1 := (hcell 1).trans HV1.out.c1
  have g0 := (hfro 0).trans (HV1.out.f 0)
  clear hR hO hO2 hcell hfro
  refine region_held_tail 21 (S := (fun w' => w'.cell? ⟨N, 0, none⟩ = some (.pointer (some ⟨rb, 0, none⟩)) ∧ w'.cell? ⟨rb, 0, none⟩ = some (.slice A l.length cap) ∧ w'.cell? ⟨rb, 1, none⟩ = some (.int .i64 (j : Nat)))) (by kernel_rfl) (by kernel_rfl) ?_ (fun hHeld => ?_)
  · (try dsimp only); first | done | (first | exact ⟨cN, c0, c1⟩ | exact ⟨cN2, q0, q1⟩)
  refine HeldT.take (i := 0) (v := ?_) (by simp only [List.getElem?_toArray, List.getElem?_cons_succ, List.getElem?_cons_zero]; rfl) (by kernel_rfl) (by kernel_rfl) (by kernel_rfl) (by kernel_rfl) (by exact fun _ _ _ h => h) ?_ (by assumption) ?_
  rotate_left
  · refine Or.inl ⟨by rfl, ?_⟩
    (intro w hSw; (try dsimp only at hSw); go_simp; try with_reducible rfl)
  try simp only [Act.put, List.setIfInBounds_toArray, List.set_cons_zero, List.set_cons_succ]
  refine HeldT.take (i := 1) (v := ?_) (by simp only [List.getElem?_toArray, List.getElem?_cons_succ, List.getElem?_cons_zero]; rfl) (by kernel_rfl) (by kernel_rfl) (by kernel_rfl) (by kernel_rfl) (by exact fun _ _ _ h => h) ?_ (by assumption) ?_
  rotate_left
  · refine Or.inl ⟨by rfl, ?_⟩
    (intro w hSw; (try dsimp only at hSw); go_simp; try with_reducible rfl)
  try simp only [Act.put, List.setIfInBounds_toArray, List.set_cons_zero, List.set_cons_succ]
  refine HeldT.take (i := 2) (v := ?_) (by simp only [List.getElem?_toArray, List.getElem?_cons_succ, List.getElem?_cons_zero]; rfl) (by kernel_rfl) (by kernel_rfl) (by kernel_rfl) (by kernel_rfl) (by exact fun _ _ _ h => h) ?_ (by assumption) ?_
  rotate_left
  · refine Or.inl ⟨by rfl, ?_⟩
    (intro w hSw; (try dsimp only at hSw); go_simp; try with_reducible rfl)
  try simp only [Act.put, List.setIfInBounds_toArray, List.set_cons_zero, List.set_cons_succ]
  refine HeldT.take (i := 3) (v := ?_) (by simp only [List.getElem?_toArray, List.getElem?_cons_succ, List.getElem?_cons_zero]; rfl) (by kernel_rfl) (by kernel_rfl) (by kernel_rfl) (by kernel_rfl) (by exact fun _ _ _ h => h) ?_ (by assumption) ?_
  rotate_left
  · refine Or.inl ⟨by rfl, ?_⟩
    (intro w hSw; (try dsimp only at hSw); go_simp; try with_reducible rfl)
  try simp only [Act.put, List.setIfInBounds_toArray, List.set_cons_zero, List.set_cons_succ]
  refine HeldT.take (i := 4) (v := ?_) (by simp only [List.getElem?_toArray, List.getElem?_cons_succ, List.getElem?_cons_zero]; rfl) (by kernel_rfl) (by kernel_rfl) (by kernel_rfl) (by kernel_rfl) (by exact fun _ _ _ h => h) ?_ (by assumption) ?_
  rotate_left
  · refine Or.inl ⟨by rfl, ?_⟩
    (intro w hSw; (try dsimp only at hSw); go_simp; try with_reducible rfl)
  try simp only [Act.put, List.setIfInBounds_toArray, List.set_cons_zero, List.set_cons_succ]
  refine HeldT.take (i := 5) (v := ?_) (by simp only [List.getElem?_toArray, List.getElem?_cons_succ, List.getElem?_cons_zero]; rfl) (by kernel_rfl) (by kernel_rfl) (by kernel_rfl) (by kernel_rfl) (by exact fun _ _ _ h => h) ?_ (by assumption) ?_
  rotate_left
  · refine Or.inl ⟨by rfl, ?_⟩
    (intro w hSw; (try dsimp only at hSw); go_simp; try with_reducible rfl)
  try simp only [Act.put, List.setIfInBounds_toArray, List.set_cons_zero, List.set_cons_succ]
  refine HeldT.take (i := 6) (v := ?_) (by simp only [List.getElem?_toArray, List.getElem?_cons_succ, List.getElem?_cons_zero]; rfl) (by kernel_rfl) (by kernel_rfl) (by kernel_rfl) (by kernel_rfl) (by exact fun _ _ _ h => h) ?_ (by assumption) ?_
  rotate_left
  · refine Or.inl ⟨by rfl, ?_⟩
    (intro w hSw; (try dsimp only at hSw); go_simp; try with_reducible rfl)
  try simp only [Act.put, List.setIfInBounds_toArray, List.set_cons_zero, List.set_cons_succ]
  refine HeldT.take (i := 7) (v := ?_) (by simp only [List.getElem?_toArray, List.getElem?_cons_succ, List.getElem?_cons_zero]; rfl) (by kernel_rfl) (by kernel_rfl) (by kernel_rfl) (by kernel_rfl) (by exact fun _ _ _ h => h) ?_ (by assumption) ?_
  rotate_left
  · refine Or.inl ⟨by rfl, ?_⟩
    (intro w hSw; (try dsimp only at hSw); go_simp; try with_reducible rfl)
  try simp only [Act.put, List.setIfInBounds_toArray, List.set_cons_zero, List.set_cons_succ]
  refine HeldT.take (i := 8) (v := ?_) (by simp only [List.getElem?_toArray, List.getElem?_cons_succ, List.getElem?_cons_zero]; rfl) (by kernel_rfl) (by kernel_rfl) (by kernel_rfl) (by kernel_rfl) (by exact fun _ _ _ h => h) ?_ (by assumption) ?_
  rotate_left
  · refine Or.inl ⟨by rfl, ?_⟩
    (intro w hSw; (try dsimp only at hSw); go_simp; try with_reducible rfl)
  try simp only [Act.put, List.setIfInBounds_toArray, List.set_cons_zero, List.set_cons_succ]
  refine HeldT.take (i := 9) (v := ?_) (by simp only [List.getElem?_toArray, List.getElem?_cons_succ, List.getElem?_cons_zero]; rfl) (by kernel_rfl) (by kernel_rfl) (by kernel_rfl) (by kernel_rfl) (by exact fun _ _ _ h => h) ?_ (by assumption) ?_
  rotate_left
  · refine Or.inl ⟨by rfl, ?_⟩
    (intro w hSw; (try dsimp only at hSw); go_simp; try with_reducible rfl)
  try simp only [Act.put, List.setIfInBounds_toArray, List.set_cons_zero, List.set_cons_succ]
  refine HeldT.take (i := 10) (v := ?_) (by simp only [List.getElem?_toArray, List.getElem?_cons_succ, List.getElem?_cons_zero]; rfl) (by kernel_rfl) (by kernel_rfl) (by kernel_rfl) (by kernel_rfl) (by exact fun _ _ _ h => h) ?_ (by assumption) ?_
  rotate_left
  · refine Or.inl ⟨by rfl, ?_⟩
    (intro w hSw; (try dsimp only at hSw); go_simp; try with_reducible rfl)
  try simp only [Act.put, List.setIfInBounds_toArray, List.set_cons_zero, List.set_cons_succ]
  refine HeldT.take (i := 11) (v := ?_) (by simp only [List.getElem?_toArray, List.getElem?_cons_succ, List.getElem?_cons_zero]; rfl) (by kernel_rfl) (by kernel_rfl) (by kernel_rfl) (by kernel_rfl) (by exact fun _ _ _ h => h) ?_ (by assumption) ?_
  rotate_left
  · refine Or.inl ⟨by rfl, ?_⟩
    (intro w hSw; (try dsimp only at hSw); go_simp; try with_reducible rfl)
  try simp only [Act.put, List.setIfInBounds_toArray, List.set_cons_zero, List.set_cons_succ]
  refine HeldT.take (i := 12) (v := ?_) (by simp only [List.getElem?_toArray, List.getElem?_cons_succ, List.getElem?_cons_zero]; rfl) (by kernel_rfl) (by kernel_rfl) (by kernel_rfl) (by kernel_rfl) (by exact fun _ _ _ h => h) ?_ (by assumption) ?_
  rotate_left
  · refine Or.inl ⟨by rfl, ?_⟩
    (intro w hSw; (try dsimp only at hSw); go_simp; try with_reducible rfl)
  try simp only [Act.put, List.setIfInBounds_toArray, List.set_cons_zero, List.set_cons_succ]
  refine HeldT.take (i := 13) (v := ?_) (by simp only [List.getElem?_toArray, List.getElem?_cons_succ, List.getElem?_cons_zero]; rfl) (by kernel_rfl) (by kernel_rfl) (by kernel_rfl) (by kernel_rfl) (by exact fun _ _ _ h => h) ?_ (by assumption) ?_
  rotate_left
  · refine Or.inl ⟨by rfl, ?_⟩
    (intro w hSw; (try dsimp only at hSw); go_simp; try with_reducible rfl)
  try simp only [Act.put, List.setIfInBounds_toArray, List.set_cons_zero, List.set_cons_succ]
  refine HeldT.take (i := 14) (v := ?_) (by simp only [List.getElem?_toArray, List.getElem?_cons_succ, List.getElem?_cons_zero]; rfl) (by kernel_rfl) (by kernel_rfl) (by kernel_rfl) (by kernel_rfl) (by exact fun _ _ _ h => h) ?_ (by assumption) ?_
  rotate_left
  · refine Or.inl ⟨by rfl, ?_⟩
    (intro w hSw; (try dsimp only at hSw); go_simp; try with_reducible rfl)
  try simp only [Act.put, List.setIfInBounds_toArray, List.set_cons_zero, List.set_cons_succ]
  refine HeldT.take (i := 15) (v := ?_) (by simp only [List.getElem?_toArray, List.getElem?_cons_succ, List.getElem?_cons_zero]; rfl) (by kernel_rfl) (by kernel_rfl) (by kernel_rfl) (by kernel_rfl) (by exact fun _ _ _ h => h) ?_ (by assumption) ?_
  rotate_left
  · refine Or.inl ⟨by rfl, ?_⟩
    (intro w hSw; (try dsimp only at hSw); go_simp; try with_reducible rfl)
  try simp only [Act.put, List.setIfInBounds_toArray, List.set_cons_zero, List.set_cons_succ]
  refine HeldT.take (i := 16) (v := ?_) (by simp only [List.getElem?_toArray, List.getElem?_cons_succ, List.getElem?_cons_zero]; rfl) (by kernel_rfl) (by kernel_rfl) (by kernel_rfl) (by kernel_rfl) (by exact fun _ _ _ h => h) ?_ (by assumption) ?_
  rotate_left
  · refine Or.inl ⟨by rfl, ?_⟩
    (intro w hSw; (try dsimp only at hSw); go_simp; try with_reducible rfl)
  try simp only [Act.put, List.setIfInBounds_toArray, List.set_cons_zero, List.set_cons_succ]
  refine HeldT.take (i := 17) (v := ?_) (by simp only [List.getElem?_toArray, List.getElem?_cons_succ, List.getElem?_cons_zero]; rfl) (by kernel_rfl) (by kernel_rfl) (by kernel_rfl) (by kernel_rfl) (by exact fun _ _ _ h => h) ?_ (by assumption) ?_
  rotate_left
  · refine Or.inl ⟨by rfl, ?_⟩
    (intro w hSw; (try dsimp only at hSw); go_simp; try with_reducible rfl)
  try simp only [Act.put, List.setIfInBounds_toArray, List.set_cons_zero, List.set_cons_succ]
  refine HeldT.take (i := 18) (v := ?_) (by simp only [List.getElem?_toArray, List.getElem?_cons_succ, List.getElem?_cons_zero]; rfl) (by kernel_rfl) (by kernel_rfl) (by kernel_rfl) (by kernel_rfl) (by exact fun _ _ _ h => h) ?_ (by assumption) ?_
  rotate_left
  · refine Or.inl ⟨by rfl, ?_⟩
    (intro w hSw; (try dsimp only at hSw); go_simp; try with_reducible rfl)
  try simp only [Act.put, List.setIfInBounds_toArray, List.set_cons_zero, List.set_cons_succ]
  refine HeldT.take (i := 19) (v := ?_) (by simp only [List.getElem?_toArray, List.getElem?_cons_succ, List.getElem?_cons_zero]; rfl) (by kernel_rfl) (by kernel_rfl) (by kernel_rfl) (by kernel_rfl) (by exact fun _ _ _ h => h) ?_ (by assumption) ?_
  rotate_left
  · refine Or.inl ⟨by rfl, ?_⟩
    (intro w hSw; (try dsimp only at hSw); go_simp; try with_reducible rfl)
  try simp only [Act.put, List.setIfInBounds_toArray, List.set_cons_zero, List.set_cons_succ]
  refine HeldT.one (i := 20) (by simp only [List.getElem?_toArray, List.getElem?_cons_succ, List.getElem?_cons_zero]; rfl) (by kernel_rfl) (by kernel_rfl) (fun K hK => ?_)
  (refine step_append_run (by rfl) _ _ _ (by rfl) _ _ _ (by rfl) (by rfl) hrun ?_)
  refine hK.out _ _ ?_ (fun hHeld => ?_)
  · (try dsimp only); first | done | (first | exact ⟨cN, c0, c1⟩ | exact ⟨cN2, q0, q1⟩)
  clear hK K
  try simp only [Act.put, List.setIfInBounds_toArray, List.set_cons_zero, List.set_cons_succ]
  refine HeldT.tail (by kernel_rfl) rfl ?_
  go_wp2_with fail
  go_returns
  exact ⟨rfl, ⟨_, _, _, _, HR.out⟩, HO.out⟩
end Go.Proofs.YtdggmnpggphdcaaDoor
