/- pushKill, the closures of Kill, Delete, WriteRunes and SetWithIdx. -/
import Derived.Test.YtdggmnpggphdcaaDoorRbStep
namespace Go.Proofs.YtdggmnpggphdcaaDoor
open Go.RowKit
set_option linter.unusedVariables false
set_option linter.unusedSimpArgs false

theorem Src.below {w w' : World} {C : Option Addr} {m c : Nat} {xs : List Int} (h : Src w C m c xs) (hb : Below w.heap.size w w') : Src w' C m c xs := by
  refine ⟨h.1, ?_⟩
  rcases h.2 with h | ⟨ad, h, hc⟩
  · exact .inl h
  · exact .inr ⟨ad, h, fun j u hu => by
      have := hc j u hu
      exact (hb.cell (World.block_lt_of_cell? w _ this)).trans this⟩

theorem row_empty (w : World) (base : Nat) (h : base ≤ w.heap.size) : Row (w.alloc (.cells #[] 21)) base (some ⟨w.heap.size, 0, none⟩) 0 [] :=
  ⟨rfl, .inr ⟨w.heap.size, 0, #[], rfl, h, heap_alloc_new w _, Nat.le_refl _, Nat.zero_le _, rfl, rfl⟩⟩

set_option maxHeartbeats 2000000 in
theorem push_kill {w : World} {rb : Nat} {l : List Int} {k : Nat} {kept : List Int} {A : Option Addr} {cap : Nat} {B : Option Addr} {cap2 : Nat} (h : RBv w rb l k kept A cap B cap2) (C : Option Addr) (m c : Nat) (xs : List Int) (hs : Src w C m c xs) (hx : xs.length ≤ 100000) :
    Calls Tryd.prog 58 #[.pointer (some ⟨rb, 0, none⟩), .slice C m c] w fun e w' => e = .returned (.tuple #[]) ∧ (∃ B' cap', RBv w' rb l k xs A cap B' cap') ∧ Own rb w w' := by
  have hb0 : Below w.heap.size w (w.alloc (.cells #[] 21)) := (Below.refl _ _).alloc (Nat.le_refl _) _
  obtain ⟨B', cap', w1, hrun, hrow, hg, hb⟩ := run_append_row _ (rb + 1) _ 0 [] (row_empty w (rb + 1) (by have := h.sz; omega)) C m c xs (hs.below hb0) (by have := h.sz; simp; omega) (by simp; omega)
  have hb1 : Below w.heap.size w w1 := hb0.grown hg (by simp) (fun q hq => Nat.le_of_eq (by simpa [blk] using hq))
  have hv1 := h.below hb1
  have hap : ∀ g, blk A = some g → blk B' ≠ some g := fun g hg' hB => by
    have := (h.r0.blk_lt hg').2.1
    rcases hb with e | e
    · rw [e] at hB; have : w.heap.size = g := by simpa [blk] using hB
      omega
    · rw [e] at hB; have : w.heap.size + 1 = g := by simpa using hB
      omega
  have hv2 := hv1.kill hrow hap
  rw [List.nil_append] at hrun hv2
  have HV := Go.Lib.hid hv2
  have O1 : Hid (Own rb w (w1.setCell ⟨rb, 10, none⟩ (.slice B' xs.length cap'))) := ((Own.refl rb w).after hb1).set 10 _
  have c10 := hv1.c10
  have f10 := hv1.f 10
  have sz1 := hv1.sz
  clear hb0 hg hb1 hv1 hap hv2 hrow hb h hs
  go_enter Tryd.func58, Tryd.ntmps58
  go_wp2_with (at_builtin; refine wpList_append_run (by rfl) _ _ _ (by rfl) _ _ _ (by rfl) (by rfl) hrun ?_)
  go_returns
  exact ⟨rfl, ⟨_, _, HV.out⟩, O1.out⟩

theorem mid_run (A : Option Addr) (n cap i j : Nat) (h : i ≤ j) (hj : j ≤ cap) : ∀ w, (Instr.slice 39 (.slice A n cap) (some (.int .i64 (i : Nat))) (some (.int .i64 (j : Nat))) none).run Tryd.prog w = .ok (.slice (fromA A cap i) (j - i) (cap - i)) w := fun w => by
  have he : Tryd.prog.elem 39 = 21 := by simp [Program.elem, Tryd.underlying39]
  rw [run_slice_lh w 39 _ n cap (by rw [he]; exact Tryd.underlying39) .i64 .i64 i j (by omega) (by omega) (by omega), sizeI]
  simp only [Result.andThen, sliced, Nat.mul_one, Int.toNat_natCast, fromA]

set_option maxRecDepth 100000 in
set_option maxHeartbeats 4000000 in
theorem kill_cl (rb N : Nat) (l : List Int) (k : Nat) (kept : List Int) (w : World) (h : RB w rb l k kept) (hN : Cap w rb N) (hk : k ≤ l.length) (hl : l.length ≤ 100000) :
    Calls Tryd.prog 81 #[.pointer (some ⟨N, 0, none⟩)] w fun e w' => e = .returned (.tuple #[]) ∧ (RB w' rb (l.take k) k (l.drop k) ∧ Own rb w w') := by
  obtain ⟨A, cap, B, cap2, hv⟩ := h
  have HV := Go.Lib.hid hv
  have HN := Go.Lib.hid hN
  have hle := hv.r0.le
  have hs1 := from_run A l.length cap k hk
  have hs2 := up_run A l.length cap k (by omega)
  obtain ⟨c0, c1, -, -, -, -, f, sz, -⟩ := hv
  obtain ⟨cN, ltN, neN, -⟩ := hN
  clear f
  go_enter Tryd.func81, Tryd.ntmps81
  go_wp2_with fail
  refine region_quiet_tail 10 (by kernel_rfl) (by kernel_rfl) ?_
  simp only [List.take_succ_cons, List.take_zero, List.drop_succ_cons, List.drop_zero]
  repeat (go_big_quiet_step (fail))
  refine wpQuiet_nil ?_
  intro _ hw'
  obtain ⟨nq, hw''⟩ := hw'
  subst hw''
  have HV1 : Hid (RBv (w.drewN nq) rb l k kept A cap B cap2) := HV.out.below (below_drewN (Below.refl _ _) _)
  have hsrc := row_src HV1.out.r0 k l.length hk (Nat.le_refl _)
  rw [List.take_of_length_le (Nat.le_refl _)] at hsrc
  have HSRC := Go.Lib.hid hsrc
  clear hsrc
  go_wp2_with fail
  refine (push_kill HV1.out _ _ _ _ HSRC.out (by simp; omega)).mono ?_
  rintro e w1 ⟨rfl, ⟨B', cap', h1⟩, o1⟩
  have H1 := Go.Lib.hid h1
  have HN1 : Hid (Cap w1 rb N) := HN.out.own (((Own.refl rb w).drewN nq).trans o1)
  have O1 : Hid (Own rb w w1) := ((Own.refl rb w).drewN nq).trans o1
  clear h1 o1 c0 c1 cN
  have c0 := H1.out.c0
  have c1 := H1.out.c1
  have f0 := H1.out.f 0
  have cN := HN1.out.c
  have sz1 := H1.out.sz
  go_wp2_with fail
  refine region_quiet_tail 12 (by kernel_rfl) (by kernel_rfl) ?_
  simp only [List.take_succ_cons, List.take_zero, List.drop_succ_cons, List.drop_zero]
  repeat (go_big_quiet_step (fail))
  refine wpQuiet_nil ?_
  intro _ hw'
  obtain ⟨nq, hw''⟩ := hw'
  subst hw''
  go_wp2_with fail
  go_returns
  have hlk : (l.take k).length = k := by simp; omega
  have hv2 := (H1.out.below (below_drewN (Below.refl w1.heap.size w1) nq)).buf ((H1.out.below (below_drewN (Below.refl w1.heap.size w1) nq)).r0.take k hk) H1.out.ap
  rw [hlk] at hv2
  exact ⟨rfl, ⟨_, _, _, _, hv2⟩, (O1.out.drewN _).set _ _⟩

set_option maxRecDepth 100000 in
set_option maxHeartbeats 4000000 in
theorem delete_cl (rb N M : Nat) (l : List Int) (k : Nat) (kept : List Int) (w : World) (h : RB w rb l k kept) (hN : Cap w rb N) (hM : w.cell? ⟨M, 0, none⟩ = some (.bool false) ∧ w.frozen? ⟨M, 0, none⟩ = false ∧ M < w.heap.size ∧ M ≠ rb ∧ ¬ I32 w M) (hk : k < l.length) (hl : l.length ≤ 100000) :
    Calls Tryd.prog 57 #[.pointer (some ⟨N, 0, none⟩), .pointer (some ⟨M, 0, none⟩)] w fun e w' => e = .returned (.tuple #[]) ∧ ∃ w1, (RB w1 rb (cutAt l k) k ((l.take (k + 1)).drop k) ∧ Own rb w w1) ∧ w1.cell? ⟨M, 0, none⟩ = some (.bool false) ∧ ¬ I32 w1 M ∧ w' = w1.setCell ⟨M, 0, none⟩ (.bool true) := by
  obtain ⟨A, cap, B, cap2, hv⟩ := h
  have HV := Go.Lib.hid hv
  have HN := Go.Lib.hid hN
  have HM := Go.Lib.hid hM
  have hle := hv.r0.le
  obtain ⟨m, hm⟩ : ∃ m, m = k + 1 := ⟨_, rfl⟩
  have hs1 := mid_run A l.length cap k m (by omega) (by omega)
  have hs2 := up_run A l.length cap k (by omega)
  have hs3 := from_run A l.length cap m (by omega)
  have hmk : m - k = 1 := by omega
  have hmk2 : k ≤ m := by omega
  have hml : m ≤ l.length := by omega
  have hw2 : IntKind.i64.wrap ((k : Int) + 1) = (m : Int) := by rw [IntWalk.i64_in _ (by omega)]; omega
  have hcut : cutAt l k = l.take k ++ l.drop m := by rw [hm]; rfl
  obtain ⟨l', hl'⟩ : ∃ x, x = cutAt l k := ⟨_, rfl⟩
  rw [← hl', ← hm]
  rw [← hl'] at hcut
  have HC := Go.Lib.hid hcut
  have e' : ((k : Int) == (l.length : Int)) = false := by simp; omega
  have HMK := Go.Lib.hid hmk
  have hkl : k ≤ l.length := by omega
  obtain ⟨c0, c1, -, -, -, -, f, sz, -⟩ := hv
  obtain ⟨cN, ltN, neN, -⟩ := hN
  clear f hcut hl' hm hM hmk
  go_enter Tryd.func57, Tryd.ntmps57
  go_wp2_with fail
  go_quiet (fail)
  go_wp2_with fail
  have HV0 : Hid (RBv (w.drewN nq) rb l k kept A cap B cap2) := HV.out.below (below_drewN (Below.refl _ _) _)
  have HN0 : Hid (Cap (w.drewN nq) rb N) := HN.out.own ((Own.refl rb w).drewN nq)
  have O0 : Hid (Own rb w (w.drewN nq)) := (Own.refl rb w).drewN nq
  clear c0 c1 cN ltN
  generalize w.drewN nq = w0 at HV0 HN0 O0 ⊢
  have c0 := HV0.out.c0
  have c1 := HV0.out.c1
  have cN := HN0.out.c
  refine region_quiet_tail 15 (by kernel_rfl) (by kernel_rfl) ?_
  simp only [List.take_succ_cons, List.take_zero, List.drop_succ_cons, List.drop_zero]
  repeat (go_big_quiet_step (fail))
  refine wpQuiet_nil ?_
  intro _ hw'
  obtain ⟨nq, hw''⟩ := hw'
  subst hw''
  have HV1 : Hid (RBv (w0.drewN nq) rb l k kept A cap B cap2) := HV0.out.below (below_drewN (Below.refl _ _) _)
  have HSRC := Go.Lib.hid (row_src HV1.out.r0 k m hmk2 hml)
  go_wp2_with fail
  refine (push_kill HV1.out _ _ _ _ HSRC.out (by simp; omega)).mono ?_
  rintro e w1 ⟨rfl, ⟨B', cap', h1⟩, o1⟩
  have H1 := Go.Lib.hid h1
  have O1 : Hid (Own rb w w1) := (O0.out.drewN nq).trans o1
  have HN1 : Hid (Cap w1 rb N) := HN.out.own O1.out
  clear h1 o1 c0 c1 cN
  have c0 := H1.out.c0
  have c1 := H1.out.c1
  have cN := HN1.out.c
  have f0 := H1.out.f 0
  have sz1 := H1.out.sz
  obtain ⟨A', cap3, w', hrun, hR, hO, hcell, hfro, hO2⟩ := cut_run (H1.out.below (Below.refl _ _).drew) k m hkl hml hl l' HC.out
  have cN2 := ((HN1.out.own (Own.refl rb w1).drew).own hO2).c
  have HR := Go.Lib.hid hR
  have HO : Hid (Own rb w (w'.setCell ⟨rb, 0, none⟩ (.slice A' l'.length cap3))) := O1.out.drew.trans hO
  have q0 := (hcell 0).trans H1.out.c0
  have q1 := (hcell 1).trans H1.out.c1
  have g0 := (hfro 0).trans (H1.out.f 0)
  have eM := HO.out.rest M HM.out.2.2.1 HM.out.2.2.2.1 (.inr HM.out.2.2.2.2)
  have cM : (w'.setCell ⟨rb, 0, none⟩ (.slice A' l'.length cap3)).cell? ⟨M, 0, none⟩ = some (.bool false) := (World.cell?_of_block (w := w) eM).trans HM.out.1
  have fM : (w'.setCell ⟨rb, 0, none⟩ (.slice A' l'.length cap3)).frozen? ⟨M, 0, none⟩ = false := (World.frozen?_of_block (w := w) eM).trans HM.out.2.1
  have HNI : Hid (¬ I32 (w'.setCell ⟨rb, 0, none⟩ (.slice A' l'.length cap3)) M) := fun h' => HM.out.2.2.2.2 (h'.of eM.symm)
  clear hR hO hO2 hcell hfro eM
  go_wp2_with fail
  refine region_held_tail 21 (S := (fun w' => w'.cell? ⟨N, 0, none⟩ = some (.pointer (some ⟨rb, 0, none⟩)) ∧ w'.cell? ⟨rb, 0, none⟩ = some (.slice A l.length cap) ∧ w'.cell? ⟨rb, 1, none⟩ = some (.int .i64 (k : Nat)))) (by kernel_rfl) (by kernel_rfl) ?_ (fun hHeld => ?_)
  · (try dsimp only); first | done | (first | exact ⟨cN, c0, c1⟩ | exact ⟨cN2, q0, q1⟩)
  refine HeldT.take (i := 0) (v := ?_) (by simp only [List.getElem?_toArray, List.getElem?_cons_succ, List.getElem?_cons_zero]; rfl) (by kernel_rfl) (by kernel_rfl) (by kernel_rfl) (by kernel_rfl) (by exact fun _ _ _ h => h) ?_ (by assumption) ?_
  rotate_left
  · refine Or.inl ⟨by rfl, ?_⟩
    (intro w hSw; (try dsimp only at hSw); go_simp; try with_reducible rfl)
  try simp only [Act.put, List.setIfInBounds_toArray, List.set_cons_zero, List.set_cons_succ]
  refine HeldT.take (i := 1) (v := ?_) (by simp only [List.getElem?_toArray, List.getElem?_cons_succ, List.getElem?_cons_zero]; rfl) (by kernel_rfl) (by kernel_rfl) (by kernel_rfl) (by kernel_rfl) (by exact fun _ _ _ h => h) ?_ (by assumption) ?_
  rotate_left
  · refine Or.inl ⟨by rfl, ?_⟩
    (intro w hSw; (try dsimp only at hSw); go_simp; try with_reducible rfl)
  try simp only [Act.put, List.setIfInBounds_toArray, List.set_cons_zero, List.set_cons_succ]
  refine HeldT.take (i := 2) (v := ?_) (by simp only [List.getElem?_toArray, List.getElem?_cons_succ, List.getElem?_cons_zero]; rfl) (by kernel_rfl) (by kernel_rfl) (by kernel_rfl) (by kernel_rfl) (by exact fun _ _ _ h => h) ?_ (by assumption) ?_
  rotate_left
  · refine Or.inl ⟨by rfl, ?_⟩
    (intro w hSw; (try dsimp only at hSw); go_simp; try with_reducible rfl)
  try simp only [Act.put, List.setIfInBounds_toArray, List.set_cons_zero, List.set_cons_succ]
  refine HeldT.take (i := 3) (v := ?_) (by simp only [List.getElem?_toArray, List.getElem?_cons_succ, List.getElem?_cons_zero]; rfl) (by kernel_rfl) (by kernel_rfl) (by kernel_rfl) (by kernel_rfl) (by exact fun _ _ _ h => h) ?_ (by assumption) ?_
  rotate_left
  · refine Or.inl ⟨by rfl, ?_⟩
    (intro w hSw; (try dsimp only at hSw); go_simp; try with_reducible rfl)
  try simp only [Act.put, List.setIfInBounds_toArray, List.set_cons_zero, List.set_cons_succ]
  refine HeldT.take (i := 4) (v := ?_) (by simp only [List.getElem?_toArray, List.getElem?_cons_succ, List.getElem?_cons_zero]; rfl) (by kernel_rfl) (by kernel_rfl) (by kernel_rfl) (by kernel_rfl) (by exact fun _ _ _ h => h) ?_ (by assumption) ?_
  rotate_left
  · refine Or.inl ⟨by rfl, ?_⟩
    (intro w hSw; (try dsimp only at hSw); go_simp; try with_reducible rfl)
  try simp only [Act.put, List.setIfInBounds_toArray, List.set_cons_zero, List.set_cons_succ]
  refine HeldT.take (i := 5) (v := ?_) (by simp only [List.getElem?_toArray, List.getElem?_cons_succ, List.getElem?_cons_zero]; rfl) (by kernel_rfl) (by kernel_rfl) (by kernel_rfl) (by kernel_rfl) (by exact fun _ _ _ h => h) ?_ (by assumption) ?_
  rotate_left
  · refine Or.inl ⟨by rfl, ?_⟩
    (intro w hSw; (try dsimp only at hSw); go_simp; try with_reducible rfl)
  try simp only [Act.put, List.setIfInBounds_toArray, List.set_cons_zero, List.set_cons_succ]
  refine HeldT.take (i := 6) (v := ?_) (by simp only [List.getElem?_toArray, List.getElem?_cons_succ, List.getElem?_cons_zero]; rfl) (by kernel_rfl) (by kernel_rfl) (by kernel_rfl) (by kernel_rfl) (by exact fun _ _ _ h => h) ?_ (by assumption) ?_
  rotate_left
  · refine Or.inl ⟨by rfl, ?_⟩
    (intro w hSw; (try dsimp only at hSw); go_simp; try with_reducible rfl)
  try simp only [Act.put, List.setIfInBounds_toArray, List.set_cons_zero, List.set_cons_succ]
  refine HeldT.take (i := 7) (v := ?_) (by simp only [List.getElem?_toArray, List.getElem?_cons_succ, List.getElem?_cons_zero]; rfl) (by kernel_rfl) (by kernel_rfl) (by kernel_rfl) (by kernel_rfl) (by exact fun _ _ _ h => h) ?_ (by assumption) ?_
  rotate_left
  · refine Or.inl ⟨by rfl, ?_⟩
    (intro w hSw; (try dsimp only at hSw); go_simp; try with_reducible rfl)
  try simp only [Act.put, List.setIfInBounds_toArray, List.set_cons_zero, List.set_cons_succ]
  refine HeldT.take (i := 8) (v := ?_) (by simp only [List.getElem?_toArray, List.getElem?_cons_succ, List.getElem?_cons_zero]; rfl) (by kernel_rfl) (by kernel_rfl) (by kernel_rfl) (by kernel_rfl) (by exact fun _ _ _ h => h) ?_ (by assumption) ?_
  rotate_left
  · refine Or.inl ⟨by rfl, ?_⟩
    (intro w hSw; (try dsimp only at hSw); go_simp; try with_reducible rfl)
  try simp only [Act.put, List.setIfInBounds_toArray, List.set_cons_zero, List.set_cons_succ]
  refine HeldT.take (i := 9) (v := ?_) (by simp only [List.getElem?_toArray, List.getElem?_cons_succ, List.getElem?_cons_zero]; rfl) (by kernel_rfl) (by kernel_rfl) (by kernel_rfl) (by kernel_rfl) (by exact fun _ _ _ h => h) ?_ (by assumption) ?_
  rotate_left
  · refine Or.inl ⟨by rfl, ?_⟩
    (intro w hSw; (try dsimp only at hSw); go_simp; try with_reducible rfl)
  try simp only [Act.put, List.setIfInBounds_toArray, List.set_cons_zero, List.set_cons_succ]
  refine HeldT.take (i := 10) (v := ?_) (by simp only [List.getElem?_toArray, List.getElem?_cons_succ, List.getElem?_cons_zero]; rfl) (by kernel_rfl) (by kernel_rfl) (by kernel_rfl) (by kernel_rfl) (by exact fun _ _ _ h => h) ?_ (by assumption) ?_
  rotate_left
  · refine Or.inl ⟨by rfl, ?_⟩
    (intro w hSw; (try dsimp only at hSw); go_simp; try with_reducible rfl)
  try simp only [Act.put, List.setIfInBounds_toArray, List.set_cons_zero, List.set_cons_succ]
  refine HeldT.take (i := 11) (v := ?_) (by simp only [List.getElem?_toArray, List.getElem?_cons_succ, List.getElem?_cons_zero]; rfl) (by kernel_rfl) (by kernel_rfl) (by kernel_rfl) (by kernel_rfl) (by exact fun _ _ _ h => h) ?_ (by assumption) ?_
  rotate_left
  · refine Or.inl ⟨by rfl, ?_⟩
    (intro w hSw; (try dsimp only at hSw); go_simp; try with_reducible rfl)
  try simp only [Act.put, List.setIfInBounds_toArray, List.set_cons_zero, List.set_cons_succ]
  refine HeldT.take (i := 12) (v := ?_) (by simp only [List.getElem?_toArray, List.getElem?_cons_succ, List.getElem?_cons_zero]; rfl) (by kernel_rfl) (by kernel_rfl) (by kernel_rfl) (by kernel_rfl) (by exact fun _ _ _ h => h) ?_ (by assumption) ?_
  rotate_left
  · refine Or.inl ⟨by rfl, ?_⟩
    (intro w hSw; (try dsimp only at hSw); go_simp; try with_reducible rfl)
  try simp only [Act.put, List.setIfInBounds_toArray, List.set_cons_zero, List.set_cons_succ]
  refine HeldT.take (i := 13) (v := ?_) (by simp only [List.getElem?_toArray, List.getElem?_cons_succ, List.getElem?_cons_zero]; rfl) (by kernel_rfl) (by kernel_rfl) (by kernel_rfl) (by kernel_rfl) (by exact fun _ _ _ h => h) ?_ (by assumption) ?_
  rotate_left
  · refine Or.inl ⟨by rfl, ?_⟩
    (intro w hSw; (try dsimp only at hSw); go_simp; try with_reducible rfl)
  try simp only [Act.put, List.setIfInBounds_toArray, List.set_cons_zero, List.set_cons_succ]
  refine HeldT.take (i := 14) (v := ?_) (by simp only [List.getElem?_toArray, List.getElem?_cons_succ, List.getElem?_cons_zero]; rfl) (by kernel_rfl) (by kernel_rfl) (by kernel_rfl) (by kernel_rfl) (by exact fun _ _ _ h => h) ?_ (by assumption) ?_
  rotate_left
  · refine Or.inl ⟨by rfl, ?_⟩
    (intro w hSw; (try dsimp only at hSw); go_simp; try with_reducible rfl)
  try simp only [Act.put, List.setIfInBounds_toArray, List.set_cons_zero, List.set_cons_succ]
  refine HeldT.take (i := 15) (v := ?_) (by simp only [List.getElem?_toArray, List.getElem?_cons_succ, List.getElem?_cons_zero]; rfl) (by kernel_rfl) (by kernel_rfl) (by kernel_rfl) (by kernel_rfl) (by exact fun _ _ _ h => h) ?_ (by assumption) ?_
  rotate_left
  · refine Or.inl ⟨by rfl, ?_⟩
    (intro w hSw; (try dsimp only at hSw); go_simp; try with_reducible rfl)
  try simp only [Act.put, List.setIfInBounds_toArray, List.set_cons_zero, List.set_cons_succ]
  refine HeldT.take (i := 16) (v := ?_) (by simp only [List.getElem?_toArray, List.getElem?_cons_succ, List.getElem?_cons_zero]; rfl) (by kernel_rfl) (by kernel_rfl) (by kernel_rfl) (by kernel_rfl) (by exact fun _ _ _ h => h) ?_ (by assumption) ?_
  rotate_left
  · refine Or.inl ⟨by rfl, ?_⟩
    (intro w hSw; (try dsimp only at hSw); go_simp; try with_reducible rfl)
  try simp only [Act.put, List.setIfInBounds_toArray, List.set_cons_zero, List.set_cons_succ]
  refine HeldT.take (i := 17) (v := ?_) (by simp only [List.getElem?_toArray, List.getElem?_cons_succ, List.getElem?_cons_zero]; rfl) (by kernel_rfl) (by kernel_rfl) (by kernel_rfl) (by kernel_rfl) (by exact fun _ _ _ h => h) ?_ (by assumption) ?_
  rotate_left
  · refine Or.inl ⟨by rfl, ?_⟩
    (intro w hSw; (try dsimp only at hSw); go_simp; try with_reducible rfl)
  try simp only [Act.put, List.setIfInBounds_toArray, List.set_cons_zero, List.set_cons_succ]
  refine HeldT.take (i := 18) (v := ?_) (by simp only [List.getElem?_toArray, List.getElem?_cons_succ, List.getElem?_cons_zero]; rfl) (by kernel_rfl) (by kernel_rfl) (by kernel_rfl) (by kernel_rfl) (by exact fun _ _ _ h => h) ?_ (by assumption) ?_
  rotate_left
  · refine Or.inl ⟨by rfl, ?_⟩
    (intro w hSw; (try dsimp only at hSw); go_simp; try with_reducible rfl)
  try simp only [Act.put, List.setIfInBounds_toArray, List.set_cons_zero, List.set_cons_succ]
  refine HeldT.take (i := 19) (v := ?_) (by simp only [List.getElem?_toArray, List.getElem?_cons_succ, List.getElem?_cons_zero]; rfl) (by kernel_rfl) (by kernel_rfl) (by kernel_rfl) (by kernel_rfl) (by exact fun _ _ _ h => h) ?_ (by assumption) ?_
  rotate_left
  · refine Or.inl ⟨by rfl, ?_⟩
    (intro w hSw; (try dsimp only at hSw); go_simp; try with_reducible rfl)
  try simp only [Act.put, List.setIfInBounds_toArray, List.set_cons_zero, List.set_cons_succ]
  refine HeldT.one (i := 20) (by simp only [List.getElem?_toArray, List.getElem?_cons_succ, List.getElem?_cons_zero]; rfl) (by kernel_rfl) (by kernel_rfl) (fun K hK => ?_)
  (refine step_append_run (by rfl) _ _ _ (by rfl) _ _ _ (by rfl) (by rfl) hrun ?_)
  refine hK.out _ _ ?_ (fun hHeld => ?_)
  · (try dsimp only); first | done | (first | exact ⟨cN, c0, c1⟩ | exact ⟨cN2, q0, q1⟩)
  clear hK K
  try simp only [Act.put, List.setIfInBounds_toArray, List.set_cons_zero, List.set_cons_succ]
  refine HeldT.tail (by kernel_rfl) rfl ?_
  go_wp2_with fail
  go_returns
  exact ⟨rfl, _, ⟨⟨_, _, _, _, HR.out⟩, HO.out⟩, cM, HNI.out, rfl⟩
end Go.Proofs.YtdggmnpggphdcaaDoor
