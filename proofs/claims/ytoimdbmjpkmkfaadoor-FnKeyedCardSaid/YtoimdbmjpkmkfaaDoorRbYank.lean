/- The closure of Yank, of SetWithIdx. -/
import Derived.Test.YtoimdbmjpkmkfaaDoorKeyBase
namespace Go.Proofs.YtoimdbmjpkmkfaaDoor
open Go.RowKit
set_option linter.unusedVariables false
set_option linter.unusedSimpArgs false

/-- append onto a row that was made behind some world, beside the buffer. -/
theorem new_append {W : World} {rb : Nat} {l : List Int} {k : Nat} {kept : List Int} {A : Option Addr} {cap : Nat} {B : Option Addr} {cap2 : Nat} (h : RBv W rb l k kept A cap B cap2) (b2 : Nat) (hA : ∀ g, blk A = some g → g < b2) (hB : ∀ g, blk B = some g → g < b2) (hz : b2 ≤ W.heap.size)
    (D : Option Addr) (capD : Nat) (xs : List Int) (hD : Row W (rb + 1) D capD xs) (hDn : ∀ g, blk D = some g → b2 ≤ g) (C : Option Addr) (m c : Nat) (ys : List Int) (hs : Src W C m c ys) (hl : xs.length + ys.length ≤ 1000000) (t : List Int) (ht : t = xs ++ ys) :
    ∃ D' capD' W', (Builtin.append_ #[38, 38] 38 #[.slice D xs.length capD, .slice C m c]).run Tryd.prog W = .ok (.slice D' t.length capD') W' ∧ Row W' (rb + 1) D' capD' t ∧ (∀ g, blk D' = some g → b2 ≤ g) ∧ RBv W' rb l k kept A cap B cap2 ∧ Own rb W W' ∧ b2 ≤ W'.heap.size := by
  subst ht
  obtain ⟨D', capD', W', hrun, hrow, hg, hb⟩ := run_append_row W (rb + 1) D capD xs hD C m c ys hs (by have := h.sz; omega) hl
  refine ⟨D', capD', W', hrun, hrow, fun g hg' => ?_, h.apart hg fun g hg' => ⟨(hD.blk_lt hg').1, fun e => ?_, fun e => ?_⟩, (Own.refl _ _).grown hg fun g hg' => ⟨(hD.blk_lt hg').1, (hD.blk_lt hg').2.2⟩, Nat.le_trans hz hg.size⟩
  · rcases hb with e | e
    · exact hDn g (by rw [← e]; exact hg')
    · rw [e] at hg'; have : W.heap.size = g := by simpa using hg'
      omega
  · have := hA g e; have := hDn g hg'; omega
  · have := hB g e; have := hDn g hg'; omega

set_option maxRecDepth 100000 in
set_option maxHeartbeats 4000000 in
theorem yank_cl (rb N : Nat) (l : List Int) (k : Nat) (kept : List Int) (w : World) (h : RB w rb l k kept) (hN : Cap w rb N) (hk : k ≤ l.length) (hl : l.length ≤ 100000) (hkl : kept.length ≤ 100000) :
    Calls Tryd.prog 81 #[.pointer (some ⟨N, 0, none⟩)] w fun e w' => e = .returned (.tuple #[]) ∧ (RB w' rb (l.take k ++ kept ++ l.drop k) (k + kept.length) kept ∧ Own rb w w') := by
  obtain ⟨ib, hib, hz0, hz1, hz2⟩ := info_parts (show (Tryd.prog.info? 21).map (fun i => (i.zero, i.size, i.bytes)) = some (some (.int .i32 0), 1, 4) by kernel_rfl)
  obtain ⟨A, cap, B, cap2, hv⟩ := h
  have HV := Go.Lib.hid hv
  have HN := Go.Lib.hid hN
  have hle := hv.r0.le
  have HA : Hid (∀ g, blk A = some g → g < w.heap.size) := fun g hg => (hv.r0.blk_lt hg).2.1
  have HB : Hid (∀ g, blk B = some g → g < w.heap.size) := fun g hg => (hv.r10.blk_lt hg).2.1
  have hs1 := from_run A l.length cap k hk
  have hs2 := up_run A l.length cap k (by omega)
  obtain ⟨n, hn⟩ : ∃ n, n = l.length + kept.length := ⟨_, rfl⟩
  have hw : IntKind.i64.wrap ((l.length : Int) + (kept.length : Int)) = (n : Int) := by rw [IntWalk.i64_in _ (by omega)]; omega
  have hw2 : IntKind.i64.wrap ((k : Int) + (kept.length : Int)) = (k : Int) + (kept.length : Int) := IntWalk.i64_in _ (by omega)
  have hnl : n ≤ 200000 := by omega
  obtain ⟨x1, hx1⟩ : ∃ x, x = l.take k := ⟨_, rfl⟩
  have hx1l : x1.length ≤ 100000 := by rw [hx1]; simp; omega
  obtain ⟨x2, hx2⟩ : ∃ x, x = x1 ++ kept := ⟨_, rfl⟩
  have hx2l : x2.length ≤ 200000 := by rw [hx2]; simp; omega
  obtain ⟨x3, hx3⟩ : ∃ x, x = x2 ++ l.drop k := ⟨_, rfl⟩
  rw [← hx1, ← hx2, ← hx3]
  have HX1 := Go.Lib.hid hx1
  have HX2 := Go.Lib.hid hx2
  have HX3 := Go.Lib.hid hx3
  obtain ⟨c0, c1, c10, -, -, -, f, sz, -⟩ := hv
  obtain ⟨cN, ltN, neN, -⟩ := hN
  clear f hn hx1 hx2 hx3
  go_enter Tryd.func81, Tryd.ntmps81
  go_wp2_with fail
  refine region_quiet_tail 11 (by kernel_rfl) (by kernel_rfl) ?_
  simp only [List.take_succ_cons, List.take_zero, List.drop_succ_cons, List.drop_zero]
  repeat (go_big_quiet_step (fail))
  refine wpQuiet_nil ?_
  intro _ hw'
  obtain ⟨nq, hw''⟩ := hw'
  subst hw''
  go_wp2_with (at_make; refine wpList_make_own _ rfl _ _ 38 rfl (rb + 1) 21 ib (.int .i32 0) 1 Tryd.underlying38 hib hz0 hz1 .i64 .i64 (n : Int) n rfl rfl rfl ?c2 ?c3 ?c4 ?_)
  case c2 => rw [hz2]; omega
  case c3 => unfold maxLen; omega
  case c4 => show rb + 1 ≤ w.heap.size; omega
  intro w1 hown hgrow
  have hb1 : Below w.heap.size w w1 := ((Below.refl _ w).drew (B := w.heap.size) |> fun _ => below_drewN (Below.refl _ _) nq).grown hgrow (Nat.le_refl _) (fun k hk => by cases hk)
  have H1 : Hid (RBv w1 rb l k kept A cap B cap2) := HV.out.below hb1
  have O1 : Hid (Own rb w w1) := .of hb1
  have R1 : Hid (Row w1 (rb + 1) (some ⟨w.heap.size, 0, none⟩) n []) := hown
  have Z1 : w.heap.size ≤ w1.heap.size := hb1.size
  clear hb1 hown hgrow c0 c1 c10 cN
  have c0 := H1.out.c0
  have c1 := H1.out.c1
  have c10 := H1.out.c10
  have HN1 : Hid (Cap w1 rb N) := HN.out.own O1.out
  have cN := HN1.out.c
  go_wp2_with fail
  refine region_quiet_tail 10 (by kernel_rfl) (by kernel_rfl) ?_
  simp only [List.take_succ_cons, List.take_zero, List.drop_succ_cons, List.drop_zero]
  repeat (go_big_quiet_step (fail))
  refine wpQuiet_nil ?_
  intro _ hw'
  obtain ⟨nq, hw''⟩ := hw'
  subst hw''
  have H1b : Hid (RBv (w1.drewN nq) rb l k kept A cap B cap2) := H1.out.below (below_drewN (Below.refl _ _) _)
  have R1b : Row (w1.drewN nq) (rb + 1) (some ⟨w.heap.size, 0, none⟩) n [] := R1.out.kept fun _ _ _ _ _ => rfl
  obtain ⟨D1, d1, w2, hrun, hrow, hdn, hR, hO, hz2⟩ := new_append H1b.out w.heap.size HA.out HB.out (by exact Z1) _ n [] R1b (by simp [blk]) _ _ _ _ ((H1b.out.r0.take k hk).src) (by simp; omega) x1 (by rw [List.nil_append]; exact HX1.out)
  have H2 := Go.Lib.hid hR
  have O2 : Hid (Own rb w w2) := (O1.out.drewN nq).trans hO
  have R2 := Go.Lib.hid hrow
  have D2 := Go.Lib.hid hdn
  have hlk : (l.take k).length = k := by simp; omega
  rw [hlk] at hrun
  have hrun1 := hrun
  clear hR hO hrow hdn R1b hlk hrun c0 c1 c10 cN
  have c10 := H2.out.c10
  have HN2 : Hid (Cap w2 rb N) := HN.out.own O2.out
  have cN := HN2.out.c
  have sz2 := H2.out.sz
  obtain ⟨D2', d2, w3, hrun, hrow, hdn, hR, hO, hz3⟩ := new_append H2.out w.heap.size HA.out HB.out hz2 D1 d1 x1 R2.out D2.out _ _ _ _ (H2.out.r10.src) (by omega) x2 HX2.out
  have H3 := Go.Lib.hid hR
  have O3 : Hid (Own rb w w3) := O2.out.trans hO
  have R3 := Go.Lib.hid hrow
  have D3 := Go.Lib.hid hdn
  clear hR hO hrow hdn
  go_wp2_with first | (refine wpList_append_run (by rfl) _ _ _ (by rfl) _ _ _ (by rfl) (by rfl) hrun1 ?_) | (at_builtin; refine wpList_append_run (by rfl) _ _ _ (by rfl) _ _ _ (by rfl) (by rfl) hrun ?_)
  clear hrun1
  clear c10 cN hrun
  have c0 := H3.out.c0
  have c1 := H3.out.c1
  have HN3 : Hid (Cap w3 rb N) := HN.out.own O3.out
  have cN := HN3.out.c
  have sz3 := H3.out.sz
  refine region_quiet_tail 10 (by kernel_rfl) (by kernel_rfl) ?_
  simp only [List.take_succ_cons, List.take_zero, List.drop_succ_cons, List.drop_zero]
  repeat (go_big_quiet_step (fail))
  refine wpQuiet_nil ?_
  intro _ hw'
  obtain ⟨nq, hw''⟩ := hw'
  subst hw''
  have H3b : Hid (RBv (w3.drewN nq) rb l k kept A cap B cap2) := H3.out.below (below_drewN (Below.refl _ _) _)
  have R3b : Row (w3.drewN nq) (rb + 1) D2' d2 x2 := R3.out.kept fun _ _ _ _ _ => rfl
  have hsrc := row_src H3b.out.r0 k l.length hk (Nat.le_refl _)
  rw [List.take_of_length_le (Nat.le_refl _)] at hsrc
  obtain ⟨D3', d3, w4, hrun, hrow, hdn, hR, hO, hz4⟩ := new_append H3b.out w.heap.size HA.out HB.out hz3 D2' d2 x2 R3b D3.out _ _ _ _ hsrc (by simp; omega) x3 HX3.out
  have H4 := Go.Lib.hid hR
  have O4 : Hid (Own rb w w4) := (O3.out.drewN nq).trans hO
  have R4 := Go.Lib.hid hrow
  have D4 := Go.Lib.hid hdn
  clear hR hO hrow hdn R3b hsrc c0 c1 cN
  have c0 := H4.out.c0
  have f0 := H4.out.f 0
  have HN4 : Hid (Cap w4 rb N) := HN.out.own O4.out
  have cN := HN4.out.c
  have sz4 := H4.out.sz
  have hap : ∀ g, blk D3' = some g → blk B ≠ some g := fun g hg e => by have := HB.out g e; have := D4.out g hg; omega
  have H5 : Hid (RBv (w4.setCell ⟨rb, 0, none⟩ (.slice D3' x3.length d3)) rb x3 k kept D3' d3 B cap2) := H4.out.buf R4.out hap
  have O5 : Hid (Own rb w (w4.setCell ⟨rb, 0, none⟩ (.slice D3' x3.length d3))) := O4.out.set _ _
  clear hap
  go_wp2_with (refine wpList_append_run (by rfl) _ _ _ (by rfl) _ _ _ (by rfl) (by rfl) hrun ?_)
  clear c0 f0 cN sz4 hrun
  generalize (w4.setCell ⟨rb, 0, none⟩ (.slice D3' x3.length d3)) = w5 at H5 O5 ⊢
  have c1 := H5.out.c1
  have c10 := H5.out.c10
  have f1 := H5.out.f 1
  have HN5 : Hid (Cap w5 rb N) := HN.out.own O5.out
  have cN := HN5.out.c
  have sz5 := H5.out.sz
  refine region_quiet_tail 12 (by kernel_rfl) (by kernel_rfl) ?_
  simp only [List.take_succ_cons, List.take_zero, List.drop_succ_cons, List.drop_zero]
  repeat (go_big_quiet_step (fail))
  refine wpQuiet_nil ?_
  intro _ hw'
  obtain ⟨nq, hw''⟩ := hw'
  subst hw''
  go_wp2_with fail
  go_returns
  have hfin := (H5.out.below (below_drewN (Below.refl w5.heap.size w5) nq)).idx (k + kept.length)
  rw [Int.natCast_add] at hfin
  exact ⟨rfl, ⟨_, _, _, _, hfin⟩, (O5.out.drewN _).set _ _⟩

/-- SetWithIdx: the line and the cursor of its own. -/
theorem set_cl (rb N M K : Nat) (l : List Int) (k : Nat) (kept xs : List Int) (i : Nat) (S : Option Addr) (capS : Nat) (w : World) (A : Option Addr) (cap : Nat) (B : Option Addr) (cap2 : Nat) (hv : RBv w rb l k kept A cap B cap2) (hN : Cap w rb N) (hM : Var w rb M (.slice S xs.length capS)) (hK : Var w rb K (.int .i64 (i : Nat)))
    (hS : Row w (rb + 1) S capS xs) (hap : ∀ g, blk S = some g → blk B ≠ some g) :
    Calls Tryd.prog 61 #[.pointer (some ⟨M, 0, none⟩), .pointer (some ⟨N, 0, none⟩), .pointer (some ⟨K, 0, none⟩)] w fun e w' => e = .returned (.tuple #[]) ∧ (RB w' rb xs i kept ∧ Own rb w w') := by
  have HV := Go.Lib.hid hv
  have H1 : Hid (RBv (w.setCell ⟨rb, 0, none⟩ (.slice S xs.length capS)) rb xs k kept S capS B cap2) := hv.buf hS hap
  have O1 : Hid (Own rb w (w.setCell ⟨rb, 0, none⟩ (.slice S xs.length capS))) := (Own.refl rb w).set _ _
  have HN1 : Hid (Cap (w.setCell ⟨rb, 0, none⟩ (.slice S xs.length capS)) rb N) := hN.own O1.out
  have HK1 : Hid (Var (w.setCell ⟨rb, 0, none⟩ (.slice S xs.length capS)) rb K (.int .i64 (i : Nat))) := hK.own O1.out
  have c0 := hv.c0
  have f0 := hv.f 0
  have sz := hv.sz
  have cN := hN.c
  have cM := hM.c
  have cK := hK.c
  have nN := hN.ne
  have nK := hK.ne
  have lK := hK.lt
  have lN := hN.lt
  have c1 := hv.c1
  have f1 := hv.f 1
  clear hv hN hM hK hS hap
  go_enter Tryd.func61, Tryd.ntmps61
  go_wp2_with fail
  go_returns
  exact ⟨rfl, ⟨_, _, _, _, H1.out.idx i⟩, O1.out.set _ _⟩
end Go.Proofs.YtoimdbmjpkmkfaaDoor
