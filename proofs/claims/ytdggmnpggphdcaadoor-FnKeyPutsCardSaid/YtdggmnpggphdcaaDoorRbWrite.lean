/- The closures of WriteRunes and SetWithIdx; WriteString. -/
import Derived.Test.YtdggmnpggphdcaaDoorRbKill
namespace Go.Proofs.YtdggmnpggphdcaaDoor
open Go.RowKit
set_option linter.unusedVariables false
set_option linter.unusedSimpArgs false

/-- A variable of the call's own, of no row of code points, that holds a value. -/
structure Var (w : World) (rb N : Nat) (v : Value) : Prop where
  c : w.cell? ⟨N, 0, none⟩ = some v
  lt : N < w.heap.size
  ne : N ≠ rb
  ni : ¬ I32 w N
theorem Var.own {w w' : World} {rb N : Nat} {v : Value} (h : Var w rb N v) (ho : Own rb w w') : Var w' rb N v := by
  have e := ho.rest N h.lt h.ne (.inr h.ni)
  exact ⟨(World.cell?_of_block (w := w) e).trans h.c, Nat.lt_of_lt_of_le h.lt ho.size, h.ne, fun h' => h.ni (h'.of e.symm)⟩
theorem var_new (w : World) (rb : Nat) (v : Value) (T : TypeId) (hT : T ≠ 21) (h : rb < w.heap.size) : Var (w.alloc (.cells #[v] T)) rb w.heap.size v :=
  ⟨by simp [go_sem], by simp, by omega, fun ⟨cur, fr, e⟩ => by
    rw [heap_alloc_new] at e
    simp at e
    exact hT e.2.1⟩

/-- Rows that lie apart from an appended one are as they were. -/
theorem RBv.apart {w w' : World} {rb : Nat} {l : List Int} {k : Nat} {kept : List Int} {A : Option Addr} {cap : Nat} {B : Option Addr} {cap2 : Nat} (h : RBv w rb l k kept A cap B cap2) {row : Option Nat} (hg : w.grownBy w' row) (hrow : ∀ g, row = some g → rb < g ∧ blk A ≠ some g ∧ blk B ≠ some g) : RBv w' rb l k kept A cap B cap2 := by
  have e : w'.heap[rb]? = w.heap[rb]? := hg.block rb h.sz (fun e => by have := (hrow rb e.symm).1; omega)
  have c : ∀ j, w'.cell? ⟨rb, j, none⟩ = w.cell? ⟨rb, j, none⟩ := fun j => World.cell?_of_block (w := w) e
  exact ⟨(c _).trans h.c0, (c _).trans h.c1, (c _).trans h.c10, h.r0.kept fun k _ h2 _ h3 => hg.block k h2 (fun e => (hrow k e.symm).2.1 h3), h.r10.kept fun k _ h2 _ h3 => hg.block k h2 (fun e => (hrow k e.symm).2.2 h3), h.ap, fun j => (World.frozen?_of_block (w := w) e).trans (h.f j), by have := h.sz; have := hg.size; omega, fun h' => h.ni (h'.of e.symm)⟩

set_option maxRecDepth 100000 in
set_option maxHeartbeats 4000000 in
theorem write_cl (rb N M : Nat) (l : List Int) (k : Nat) (kept xs : List Int) (S : Option Addr) (capS : Nat) (w : World) (A : Option Addr) (cap : Nat) (B : Option Addr) (cap2 : Nat) (hv : RBv w rb l k kept A cap B cap2) (hN : Cap w rb N) (hM : Var w rb M (.slice S xs.length capS))
    (hS : Row w (rb + 1) S capS xs) (hap : ∀ g, blk S = some g → blk A ≠ some g ∧ blk B ≠ some g) (hk : k ≤ l.length) (hl : l.length ≤ 100000) (hx : xs.length ≤ 100000) :
    Calls Tryd.prog 74 #[.pointer (some ⟨M, 0, none⟩), .pointer (some ⟨N, 0, none⟩)] w fun e w' => e = .returned (.tuple #[]) ∧ (RB w' rb (l.take k ++ (xs ++ l.drop k)) (k + xs.length) kept ∧ Own rb w w') := by
  have HV := Go.Lib.hid hv
  have HN := Go.Lib.hid hN
  have HM := Go.Lib.hid hM
  have HS := Go.Lib.hid hS
  have HAP := Go.Lib.hid hap
  have hle := hv.r0.le
  have hs1 := from_run A l.length cap k hk
  have hs2 := up_run A l.length cap k (by omega)
  have hw : IntKind.i64.wrap ((k : Int) + (xs.length : Int)) = (k : Int) + (xs.length : Int) := IntWalk.i64_in _ (by omega)
  obtain ⟨c0, c1, -, -, -, -, f, sz, -⟩ := hv
  obtain ⟨cN, ltN, neN, -⟩ := hN
  have cM := hM.c
  clear f hM hS hap
  go_enter Tryd.func74, Tryd.ntmps74
  go_wp2_with fail
  refine region_quiet_tail 10 (by kernel_rfl) (by kernel_rfl) ?_
  simp only [List.take_succ_cons, List.take_zero, List.drop_succ_cons, List.drop_zero]
  repeat (go_big_quiet_step (fail))
  refine wpQuiet_nil ?_
  intro _ hw'
  obtain ⟨nq, hw''⟩ := hw'
  subst hw''
  have HV1 : Hid (RBv (w.drewN nq) rb l k kept A cap B cap2) := HV.out.below (below_drewN (Below.refl _ _) _)
  have hsrc := row_src HV1.out.r0 k l.length hk (Nat.le_refl _)
  rw [List.take_of_length_le (Nat.le_refl _)] at hsrc
  have hS1 : Row (w.drewN nq) (rb + 1) S capS xs := HS.out.kept fun _ _ _ _ _ => rfl
  obtain ⟨T, capT, w1, hrun, hrow, hg, hb⟩ := run_append_row (w.drewN nq) (rb + 1) S capS xs hS1 _ _ _ _ hsrc (by have := HV1.out.sz; omega) (by simp; omega)
  obtain ⟨t, ht⟩ : ∃ t, t = xs ++ l.drop k := ⟨_, rfl⟩
  have htl : t.length ≤ 200000 := by rw [ht]; simp; omega
  rw [← ht] at hrun hrow
  have HTT := Go.Lib.hid ht
  have hrowlt : ∀ g, blk S = some g → rb < g ∧ I32 (w.drewN nq) g := fun g hg' => ⟨(hS1.blk_lt hg').1, (hS1.blk_lt hg').2.2⟩
  have O1 : Hid (Own rb w w1) := ((Own.refl rb w).drewN nq).grown hg hrowlt
  have H1 : Hid (RBv w1 rb l k kept A cap B cap2) := HV1.out.apart hg fun g hg' => ⟨(hrowlt g hg').1, HAP.out g hg'⟩
  have HT := Go.Lib.hid hrow
  have HRUN := Go.Lib.hid hrun
  clear hsrc hrow hg hb hrowlt hS1 hrun ht
  have hrun := HRUN.out
  go_wp2_with (refine wpList_append_run (by rfl) _ _ _ (by rfl) _ _ _ (by rfl) (by rfl) hrun ?_)
  clear c0 c1 cN cM hrun
  have c0 := H1.out.c0
  have c1 := H1.out.c1
  have HN1 : Hid (Cap w1 rb N) := HN.out.own O1.out
  have HM1 : Hid (Var w1 rb M (.slice S xs.length capS)) := HM.out.own O1.out
  have cN := HN1.out.c
  have f0 := H1.out.f 0
  have sz1 := H1.out.sz
  have hV2 := H1.out.below (Below.refl _ _).drew
  obtain ⟨l', hl'⟩ : ∃ x, x = l.take k ++ t := ⟨_, rfl⟩
  have HL' := Go.Lib.hid hl'
  have hli : (l.take k).length = k := by simp; omega
  obtain ⟨A', cap3, w', hrun, hrow, hg, hb⟩ := run_append_row w1.drew (rb + 1) A cap (l.take k) (hV2.r0.take k hk) T t.length capT t ((HT.out.kept (w' := w1.drew) fun _ _ _ _ _ => rfl).src) (by have := hV2.sz; omega) (by simp; omega)
  rw [hli, ← hl'] at hrun
  rw [← hl'] at hrow
  obtain ⟨hR, hO, hcell, hfro, hO2⟩ := hV2.appended hg hrow hb
  have cN2 := ((HN1.out.own (Own.refl rb w1).drew).own hO2).c
  have q0 := (hcell 0).trans H1.out.c0
  have q1 := (hcell 1).trans H1.out.c1
  have g0 := (hfro 0).trans (H1.out.f 0)
  have HR := Go.Lib.hid hR
  have O2 : Hid (Own rb w (w'.setCell ⟨rb, 0, none⟩ (.slice A' l'.length cap3))) := O1.out.drew.trans hO
  clear hR hO hO2 hcell hfro hb hg hrow hV2 hl' hli
  refine region_held_tail 12 (S := (fun w' => w'.cell? ⟨N, 0, none⟩ = some (.pointer (some ⟨rb, 0, none⟩)) ∧ w'.cell? ⟨rb, 0, none⟩ = some (.slice A l.length cap) ∧ w'.cell? ⟨rb, 1, none⟩ = some (.int .i64 (k : Nat)))) (by kernel_rfl) (by kernel_rfl) ?_ (fun hHeld => ?_)
  · (try dsimp only); first | done | (first | exact ⟨cN, c0, c1⟩ | exact ⟨cN2, q0, q1⟩)
  refine HeldT.take (i := 0) (v := ?_) (by simp only [List.getElem?_toArray, List.getElem?_cons_succ, List.getElem?_cons_zero]; rfl) (by kernel_rfl) (by kernel_rfl) (by kernel_rfl) (by kernel_rfl) (by exact fun _ _ _ h => h) ?_ (by assumption) ?_
  rotate_left
  · refine Or.inl ⟨by rfl, ?_⟩
    (intro w hSw; (try dsimp only at hSw); go_simp; try with_reducible rfl)
  try simp only [Act.put, List.setIfInBounds_toArray, List.set_cons_zero, List.set_cons_succ]
  refine HeldT.take (i := 1) (v := ?_) (by simp only [List.getElem?_toArray, List.getElem?_cons_succ, List.getElem?_cons_zero]; rfl) (by kernel_rfl) (by kernel_rfl) (by kernel_rfl) (by kernel_rfl) (by exact fun _ _ _ h => h) ?_ (by assumption) ?_
  rotate_left
  · refine Or.inl ⟨by rfl, ?_⟩
    (intro w hSw; (try dsimp only at hSw); go_simp; try with_reducible rfl)
  try simp only [Act.put, List.setIfInBounds_toArray, List.set_cons_zero, List.set_cons_succ]
  refine HeldT.take (i := 2) (v := ?_) (by simp only [List.getElem?_toArray, List.getElem?_cons_succ, List.getElem?_cons_zero]; rfl) (by kernel_rfl) (by kernel_rfl) (by kernel_rfl) (by kernel_rfl) (by exact fun _ _ _ h => h) ?_ (by assumption) ?_
  rotate_left
  · refine Or.inl ⟨by rfl, ?_⟩
    (intro w hSw; (try dsimp only at hSw); go_simp; try with_reducible rfl)
  try simp only [Act.put, List.setIfInBounds_toArray, List.set_cons_zero, List.set_cons_succ]
  refine HeldT.take (i := 3) (v := ?_) (by simp only [List.getElem?_toArray, List.getElem?_cons_succ, List.getElem?_cons_zero]; rfl) (by kernel_rfl) (by kernel_rfl) (by kernel_rfl) (by kernel_rfl) (by exact fun _ _ _ h => h) ?_ (by assumption) ?_
  rotate_left
  · refine Or.inl ⟨by rfl, ?_⟩
    (intro w hSw; (try dsimp only at hSw); go_simp; try with_reducible rfl)
  try simp only [Act.put, List.setIfInBounds_toArray, List.set_cons_zero, List.set_cons_succ]
  refine HeldT.take (i := 4) (v := ?_) (by simp only [List.getElem?_toArray, List.getElem?_cons_succ, List.getElem?_cons_zero]; rfl) (by kernel_rfl) (by kernel_rfl) (by kernel_rfl) (by kernel_rfl) (by exact fun _ _ _ h => h) ?_ (by assumption) ?_
  rotate_left
  · refine Or.inl ⟨by rfl, ?_⟩
    (intro w hSw; (try dsimp only at hSw); go_simp; try with_reducible rfl)
  try simp only [Act.put, List.setIfInBounds_toArray, List.set_cons_zero, List.set_cons_succ]
  refine HeldT.take (i := 5) (v := ?_) (by simp only [List.getElem?_toArray, List.getElem?_cons_succ, List.getElem?_cons_zero]; rfl) (by kernel_rfl) (by kernel_rfl) (by kernel_rfl) (by kernel_rfl) (by exact fun _ _ _ h => h) ?_ (by assumption) ?_
  rotate_left
  · refine Or.inl ⟨by rfl, ?_⟩
    (intro w hSw; (try dsimp only at hSw); go_simp; try with_reducible rfl)
  try simp only [Act.put, List.setIfInBounds_toArray, List.set_cons_zero, List.set_cons_succ]
  refine HeldT.take (i := 6) (v := ?_) (by simp only [List.getElem?_toArray, List.getElem?_cons_succ, List.getElem?_cons_zero]; rfl) (by kernel_rfl) (by kernel_rfl) (by kernel_rfl) (by kernel_rfl) (by exact fun _ _ _ h => h) ?_ (by assumption) ?_
  rotate_left
  · refine Or.inl ⟨by rfl, ?_⟩
    (intro w hSw; (try dsimp only at hSw); go_simp; try with_reducible rfl)
  try simp only [Act.put, List.setIfInBounds_toArray, List.set_cons_zero, List.set_cons_succ]
  refine HeldT.take (i := 7) (v := ?_) (by simp only [List.getElem?_toArray, List.getElem?_cons_succ, List.getElem?_cons_zero]; rfl) (by kernel_rfl) (by kernel_rfl) (by kernel_rfl) (by kernel_rfl) (by exact fun _ _ _ h => h) ?_ (by assumption) ?_
  rotate_left
  · refine Or.inl ⟨by rfl, ?_⟩
    (intro w hSw; (try dsimp only at hSw); go_simp; try with_reducible rfl)
  try simp only [Act.put, List.setIfInBounds_toArray, List.set_cons_zero, List.set_cons_succ]
  refine HeldT.take (i := 8) (v := ?_) (by simp only [List.getElem?_toArray, List.getElem?_cons_succ, List.getElem?_cons_zero]; rfl) (by kernel_rfl) (by kernel_rfl) (by kernel_rfl) (by kernel_rfl) (by exact fun _ _ _ h => h) ?_ (by assumption) ?_
  rotate_left
  · refine Or.inl ⟨by rfl, ?_⟩
    (intro w hSw; (try dsimp only at hSw); go_simp; try with_reducible rfl)
  try simp only [Act.put, List.setIfInBounds_toArray, List.set_cons_zero, List.set_cons_succ]
  refine HeldT.take (i := 9) (v := ?_) (by simp only [List.getElem?_toArray, List.getElem?_cons_succ, List.getElem?_cons_zero]; rfl) (by kernel_rfl) (by kernel_rfl) (by kernel_rfl) (by kernel_rfl) (by exact fun _ _ _ h => h) ?_ (by assumption) ?_
  rotate_left
  · refine Or.inl ⟨by rfl, ?_⟩
    (intro w hSw; (try dsimp only at hSw); go_simp; try with_reducible rfl)
  try simp only [Act.put, List.setIfInBounds_toArray, List.set_cons_zero, List.set_cons_succ]
  refine HeldT.take (i := 10) (v := ?_) (by simp only [List.getElem?_toArray, List.getElem?_cons_succ, List.getElem?_cons_zero]; rfl) (by kernel_rfl) (by kernel_rfl) (by kernel_rfl) (by kernel_rfl) (by exact fun _ _ _ h => h) ?_ (by assumption) ?_
  rotate_left
  · refine Or.inl ⟨by rfl, ?_⟩
    (intro w hSw; (try dsimp only at hSw); go_simp; try with_reducible rfl)
  try simp only [Act.put, List.setIfInBounds_toArray, List.set_cons_zero, List.set_cons_succ]
  refine HeldT.one (i := 11) (by simp only [List.getElem?_toArray, List.getElem?_cons_succ, List.getElem?_cons_zero]; rfl) (by kernel_rfl) (by kernel_rfl) (fun K hK => ?_)
  (refine step_append_run (by rfl) _ _ _ (by rfl) _ _ _ (by rfl) (by rfl) hrun ?_)
  refine hK.out _ _ ?_ (fun hHeld => ?_)
  · (try dsimp only); first | done | (first | exact ⟨cN, c0, c1⟩ | exact ⟨cN2, q0, q1⟩)
  clear hK K
  try simp only [Act.put, List.setIfInBounds_toArray, List.set_cons_zero, List.set_cons_succ]
  refine HeldT.tail (by kernel_rfl) rfl ?_
  go_wp2_with fail
  have HN2 : Hid (Cap (w'.setCell ⟨rb, 0, none⟩ (.slice A' l'.length cap3)) rb N) := HN.out.own O2.out
  have HM2 : Hid (Var (w'.setCell ⟨rb, 0, none⟩ (.slice A' l'.length cap3)) rb M (.slice S xs.length capS)) := HM.out.own O2.out
  clear c0 c1 cN cN2 q0 q1 g0 hHeld f0 sz1
  generalize w'.setCell ⟨rb, 0, none⟩ (.slice A' l'.length cap3) = w2 at HR O2 HN2 HM2 ⊢
  have c1 := HR.out.c1
  have cN := HN2.out.c
  have cM := HM2.out.c
  have f1 := HR.out.f 1
  have sz2 := HR.out.sz
  refine region_quiet_tail 9 (by kernel_rfl) (by kernel_rfl) ?_
  simp only [List.take_succ_cons, List.take_zero, List.drop_succ_cons, List.drop_zero]
  repeat (go_big_quiet_step (fail))
  refine wpQuiet_nil ?_
  intro _ hw'
  obtain ⟨nq, hw''⟩ := hw'
  subst hw''
  go_wp2_with fail
  go_returns
  have hfin := (HR.out.below (below_drewN (Below.refl w2.heap.size w2) nq)).idx (k + xs.length)
  rw [HL'.out, HTT.out] at hfin
  rw [Int.natCast_add] at hfin
  exact ⟨rfl, ⟨_, _, _, _, hfin⟩, (O2.out.drewN _).set _ _⟩
end Go.Proofs.YtdggmnpggphdcaaDoor
