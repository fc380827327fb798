/- Copy, Runes, Reset, Pos; the closure of Yank, of SetWithIdx. -/
import Derived.Test.YtdggmnpggphdcaaDoorRbWrite
import Derived.Laws.CopyOwn
namespace Go.Proofs.YtdggmnpggphdcaaDoor
open Go.RowKit
set_option linter.unusedVariables false
set_option linter.unusedSimpArgs false

def CopyPost (l : List Int) (w : World) (e : Ending) (w' : World) : Prop :=
  ∃ G, e = .returned (.slice (some ⟨G, 0, none⟩) l.length l.length) ∧ w.heap.size ≤ G ∧ G < w'.heap.size ∧ (∀ (j : Nat) (v : Int), l[j]? = some v → w'.cell? ⟨G, j, none⟩ = some (.int .i32 v)) ∧ Below w.heap.size w w'

theorem splice_at {G : Nat} {w : World} {cur cs : List Value} {t : TypeId} (h : w.heap[G]? = some (.cells (splice cur 0 cs).toArray t (0, 0))) (j : Nat) (v : Value) (hj : cs[j]? = some v) : w.cell? ⟨G, j, none⟩ = some v := by
  have hjl : j < cs.length := (List.getElem?_eq_some_iff.1 hj).1
  rw [World.cell?, h]
  simp [splice]
  rw [List.getElem?_append_left (by omega)]
  exact hj

set_option maxRecDepth 100000 in
set_option maxHeartbeats 2000000 in
theorem copy_any (A : Option Addr) (m c : Nat) (l : List Int) (w : World) (hs : Src w A m c l) (hl : l.length ≤ 100000) :
    Calls Tryd.prog 64 #[.agg #[], .slice A m c] w (CopyPost l w) := by
  obtain ⟨rfl, hs⟩ := hs
  have HS := Go.Lib.hid hs
  clear hs
  obtain ⟨n, hn⟩ : ∃ n, n = l.length := ⟨_, rfl⟩
  have Hn := Go.Lib.hid hn
  rw [← hn] at hl ⊢
  clear hn
  obtain ⟨ib, hib, hz0, hz1, hz2⟩ := info_parts (show (Tryd.prog.info? 21).map (fun i => (i.zero, i.size, i.bytes)) = some (some (.int .i32 0), 1, 4) by kernel_rfl)
  go_enter Tryd.func64, Tryd.ntmps64
  go_wp2_with (at_make; refine wpList_make_full _ rfl _ _ 39 rfl (w.heap.size + 1) 21 ib (.int .i32 0) 1 Tryd.underlying39 hib hz0 hz1 .i64 .i64 (n : Int) (n : Int) n rfl rfl rfl rfl ?c2 ?c3 ?c4 ?_)
  case c2 => rw [hz2]; omega
  case c3 => unfold maxLen; omega
  case c4 => simp
  intro w1 hown hgrow
  have hb1 : Below w.heap.size w w1 := ((Below.refl _ w).alloc (Nat.le_refl _) _).grown hgrow (by simp) (fun k hk => by cases hk)
  obtain ⟨_, ho⟩ := hown
  rcases ho with ⟨ho, _⟩ | ⟨g1, cap1, cur, hv, hg1, hh, hn1', hcm, hcs, htk⟩
  · cases ho
  obtain ⟨rfl, rfl⟩ : g1 = w.heap.size + 1 ∧ n = cap1 := by cases hv; simp
  have HH := Go.Lib.hid hh
  have HCS := Go.Lib.hid hcs
  clear hv htk hh hcs hgrow
  go_wp2_with (with_reducible refine wpList_copy_splice rfl _ _ 39 39 rfl 21 Tryd.underlying39 ?k0 (some ⟨w.heap.size + 1, 0, none⟩) A n n n c rfl rfl (w.heap.size + 1) 0 cur.toList 21 ?k1 (i32s l) ?k2 ?k3 ?k4 ?k5 (w.heap.size + 1) _ (Below.refl _ _) (Nat.le_refl _) ?_)
  case k0 => kernel_rfl
  case k1 => simpa using HH.out
  case k2 => rw [i32s, List.length_map, ← Hn.out]; exact (Nat.min_self _).symm
  case k3 =>
    intro h0
    rcases HS.out with ⟨_, h1, _⟩ | ⟨ad, hA, hc⟩
    · rw [h1] at h0; simp [i32s] at h0
    · exact ⟨ad, hA, fun j v hj => by
        have := hc j v hj
        exact (hb1.cell (World.block_lt_of_cell? w _ this)).trans this⟩
  case k4 => have := HCS.out; have := Hn.out; simp [i32s]; omega
  case k5 => exact i32s_one l
  intro w2 hw2 hb2
  have hB : w.heap.size + 1 < w2.heap.size := (Array.getElem?_eq_some_iff.1 hw2.out).1
  go_wp2_with fail
  go_returns
  refine ⟨w.heap.size + 1, by rw [← Hn.out]; rfl, by omega, hB, fun j v hj => splice_at hw2.out j _ ?_, hb1.trans (hb2.mono (by omega))⟩
  rw [i32s, List.getElem?_map, hj]; rfl

set_option maxRecDepth 100000 in
set_option maxHeartbeats 2000000 in
theorem runes_of {w : World} {rb : Nat} {l : List Int} {k : Nat} {kept : List Int} {A : Option Addr} {cap : Nat} {B : Option Addr} {cap2 : Nat} (h : RBv w rb l k kept A cap B cap2) (hl : l.length ≤ 100000) :
    Calls Tryd.prog 32 #[.pointer (some ⟨rb, 0, none⟩)] w (CopyPost l w) := by
  have H := Go.Lib.hid h
  obtain ⟨n, hn⟩ : ∃ n, n = l.length := ⟨_, rfl⟩
  have Hn := Go.Lib.hid hn
  have c0 := h.c0
  have sz := h.sz
  rw [← hn] at hl c0
  clear hn h
  obtain ⟨ib, hib, hz0, hz1, hz2⟩ := info_parts (show (Tryd.prog.info? 21).map (fun i => (i.zero, i.size, i.bytes)) = some (some (.int .i32 0), 1, 4) by kernel_rfl)
  go_enter Tryd.func32, Tryd.ntmps32
  go_wp2_with (at_make; refine wpList_make_full _ rfl _ _ 39 rfl w.heap.size 21 ib (.int .i32 0) 1 Tryd.underlying39 hib hz0 hz1 .i64 .i64 (n : Int) (n : Int) n rfl rfl rfl rfl ?c2 ?c3 ?c4 ?_)
  case c2 => rw [hz2]; omega
  case c3 => unfold maxLen; omega
  case c4 => exact Nat.le_refl _
  intro w1 hown hgrow
  have hb1 : Below w.heap.size w w1 := (Below.refl _ w).grown hgrow (Nat.le_refl _) (fun k hk => by cases hk)
  obtain ⟨_, ho⟩ := hown
  rcases ho with ⟨ho, _⟩ | ⟨g1, cap1, cur, hv, hg1, hh, hn1', hcm, hcs, htk⟩
  · cases ho
  obtain ⟨rfl, rfl⟩ : g1 = w.heap.size ∧ n = cap1 := by cases hv; simp
  have HH := Go.Lib.hid hh
  have HCS := Go.Lib.hid hcs
  have c0' := (hb1.cell (p := ⟨rb, 0, none⟩) sz).trans c0
  have HSRC := Go.Lib.hid (H.out.r0.src.below hb1)
  clear hv htk hh hcs hgrow c0
  go_wp2_with (with_reducible refine wpList_copy_splice rfl _ _ 39 39 rfl 21 Tryd.underlying39 ?k0 (some ⟨w.heap.size, 0, none⟩) A n n n cap rfl rfl w.heap.size 0 cur.toList 21 ?k1 (i32s l) ?k2 ?k3 ?k4 ?k5 w.heap.size _ (Below.refl _ _) (Nat.le_refl _) ?_)
  case k0 => kernel_rfl
  case k1 => simpa using HH.out
  case k2 => rw [i32s, List.length_map, ← Hn.out]; exact (Nat.min_self _).symm
  case k3 =>
    intro h0
    rcases HSRC.out.2 with ⟨_, h1, _⟩ | ⟨ad, hA, hc⟩
    · rw [h1] at h0; simp [i32s] at h0
    · exact ⟨ad, hA, hc⟩
  case k4 => have := HCS.out; have := Hn.out; simp [i32s]; omega
  case k5 => exact i32s_one l
  intro w2 hw2 hb2
  have hB : w.heap.size < w2.heap.size := (Array.getElem?_eq_some_iff.1 hw2.out).1
  go_wp2_with fail
  go_returns
  refine ⟨w.heap.size, by rw [← Hn.out]; rfl, Nat.le_refl _, hB, fun j v hj => splice_at hw2.out j _ ?_, hb1.trans hb2⟩
  rw [i32s, List.getElem?_map, hj]; rfl

theorem pos_of {w : World} {rb : Nat} {l : List Int} {k : Nat} {kept : List Int} (h : RB w rb l k kept) :
    Calls Tryd.prog 33 #[.pointer (some ⟨rb, 0, none⟩)] w fun e w' => e = .returned (.int .i64 (k : Nat)) ∧ w = w' := by
  obtain ⟨A, cap, B, cap2, h⟩ := h
  have c1 := h.c1
  clear h
  go_enter Tryd.func33, Tryd.ntmps33
  go_wp2_with fail
  go_returns
  exact ⟨rfl, rfl⟩

/-- Reset, as a step. -/
theorem reset_any (rb : Nat) (l : List Int) (k : Nat) (kept : List Int) (w : World) (h : RB w rb l k kept) (hl : l.length ≤ 100000) :
    Calls Tryd.prog 49 #[.pointer (some ⟨rb, 0, none⟩)] w fun e w' => ∃ v, e = .returned v ∧ (RB w' rb [] 0 kept ∧ Own rb w w') := by
  obtain ⟨A, cap, B, cap2, hv⟩ := h
  have HV := Go.Lib.hid hv
  have hs1 := up_run A l.length cap 0 (Nat.zero_le _)
  have hs2 : ∀ w, (Instr.slice 39 (.slice A l.length cap) none (some (.int .i64 0)) none).run Tryd.prog w = .ok (.slice A 0 cap) w := hs1
  have hld : ∀ (W : World) (a : Addr), (loadVar 70 a).run Tryd.prog W = .ok (.agg #[]) W := fun W a => by kernel_rfl
  have c0 := hv.c0
  have sz := hv.sz
  clear hv hs1
  go_enter Tryd.func49, Tryd.ntmps49
  go_wp2_with fail
  refine region_quiet_tail 5 (by kernel_rfl) (by kernel_rfl) ?_
  simp only [List.take_succ_cons, List.take_zero, List.drop_succ_cons, List.drop_zero]
  repeat (go_big_quiet_step (fail))
  refine wpQuiet_nil ?_
  intro _ hw'
  obtain ⟨nq, hw''⟩ := hw'
  subst hw''
  have H1 : Hid (RBv (w.drewN nq) rb l k kept A cap B cap2) := HV.out.below (below_drewN (Below.refl _ _) _)
  go_wp2_with fail
  refine (copy_any A l.length cap l _ H1.out.r0.src hl).mono ?_
  rintro e w1 hP
  obtain ⟨G, rfl, -, -, -, b1⟩ := hP
  have H2 : Hid (RBv w1 rb l k kept A cap B cap2) := H1.out.below b1
  have O1 : Hid (Own rb w w1) := ((Own.refl rb w).drewN nq).after b1
  clear b1 c0
  have c0 := H2.out.c0
  have c1 := H2.out.c1
  have f0 := H2.out.f 0
  have f1 := H2.out.f 1
  have sz1 := H2.out.sz
  go_wp2_with fail
  go_returns
  have hv2 := (H2.out.buf (H2.out.r0.take 0 (Nat.zero_le _)) H2.out.ap).idx 0
  exact ⟨_, rfl, ⟨_, _, _, _, hv2⟩, (O1.out.set _ _).set _ _⟩
end Go.Proofs.YtdggmnpggphdcaaDoor
