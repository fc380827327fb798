/- impl.Chosen, laws.FnChosenRound. -/
import Derived.Test.YtmjgcfghejjleaaChosenMore
namespace Go.Proofs.Ytmjgcfghejjleaa
open Go.RowKit
set_option linter.unusedVariables false
set_option linter.unusedSimpArgs false

def outP (n m : Int) : List Int → Int × Int → List Int
  | [], _ => []
  | x :: xs, p => nxtS n m p.1 p.2 x :: outP n m xs (nxtS n m p.1 p.2 x, nxtF n m p.1 p.2 x)
theorem outP_length (n m : Int) : ∀ (zs : List Int) (p : Int × Int), (outP n m zs p).length = zs.length
  | [], _ => rfl
  | x :: xs, p => by simp [outP, outP_length n m xs]
theorem outP_step {n m : Int} {zs outs : List Int} {j : Nat} {p : Int × Int} (hj : j < zs.length) (h : outP n m (zs.drop j) p = outs.drop j) :
    outs[j]? = some (nxtS n m p.1 p.2 (nth zs j)) ∧ outP n m (zs.drop (j + 1)) (nxtS n m p.1 p.2 (nth zs j), nxtF n m p.1 p.2 (nth zs j)) = outs.drop (j + 1) := by
  rw [List.drop_eq_getElem_cons hj, ← nth_eq zs j hj] at h
  simp only [outP] at h
  constructor
  · have := congrArg (·[0]?) h
    simpa using this.symm
  · have := congrArg List.tail h
    simpa [List.tail_drop] using this

def ints (l : List Int) : List Value := l.map (.int .i64)
theorem ints_take {outs : List Int} {j : Nat} {t : Int} (h : outs[j]? = some t) : ints (outs.take (j + 1)) = ints (outs.take j) ++ [.int .i64 t] := by
  have : outs.take (j + 1) = outs.take j ++ [t] := by rw [List.take_add_one, h]; rfl
  rw [this]; simp [ints]

theorem CM.blocks {w w' : World} {cb ib : Nat} {A : Option Addr} {n m : Nat} {sel frm : Int} {t : Value} (h : CM w cb ib A n m sel frm t) (hz : w.heap.size ≤ w'.heap.size) (e1 : w'.heap[cb]? = w.heap[cb]?) (e2 : w'.heap[ib]? = w.heap[ib]?) : CM w' cb ib A n m sel frm t :=
  ⟨(World.cell?_of_block (w := w) e1).trans h.c0, (World.cell?_of_block (w := w) e1).trans h.c1, (World.cell?_of_block (w := w) e1).trans h.c2, (World.cell?_of_block (w := w) e1).trans h.c3, (World.cell?_of_block (w := w) e1).trans h.c4, (World.cell?_of_block (w := w) e2).trans h.ci, fun j => (World.frozen?_of_block (w := w) e1).trans (h.f j), Nat.lt_of_lt_of_le h.cs hz, Nat.lt_of_lt_of_le h.is hz, h.ne⟩

theorem ownsRow_blocks {w w' : World} {base : Nat} {e : TypeId} {z : Nat} {v : Value} {n : Nat} {xs : List Value} (h : w.ownsRow base e z v n xs) (hk : ∀ k, base ≤ k → k < w.heap.size → v.ownBlock = some k → w'.heap[k]? = w.heap[k]?) : w'.ownsRow base e z v n xs := by
  refine ⟨h.1, ?_⟩
  rcases h.2 with h0 | ⟨g, cap, cur, rfl, hg, hh, r⟩
  · exact .inl h0
  · exact .inr ⟨g, cap, cur, rfl, hg, by rw [hk g hg (Array.getElem?_eq_some_iff.1 hh).1 rfl]; exact hh, r⟩

theorem row_cells {w : World} {base : Nat} {e : TypeId} {v : Value} {n : Nat} {xs : List Value} (h : w.ownsRow base e 1 v n xs) (hn : 0 < n) : ∃ g cap, v = .slice (some ⟨g, 0, none⟩) n cap ∧ base ≤ g ∧ g < w.heap.size ∧ n ≤ cap ∧ ∀ (j : Nat) (u : Value), xs[j]? = some u → w.cell? ⟨g, j, none⟩ = some u := by
  have hx := h.1
  rcases h.2 with ⟨_, h0⟩ | ⟨g, cap, cur, rfl, hg, hh, hc, _, hcs, htk⟩
  · omega
  · refine ⟨g, cap, rfl, hg, (Array.getElem?_eq_some_iff.1 hh).1, hc, fun j u hu => ?_⟩
    have hj := (List.getElem?_eq_some_iff.1 hu).1
    rw [World.cell?, hh]
    have := congrArg (·[j]?) htk
    simp only [hu] at this
    rw [List.getElem?_take_of_lt (by omega)] at this
    simpa using this

theorem news_one (w : World) (v : Value) (t : TypeId) : ∀ (j : Nat) (u : Value), [v][j]? = some u → (w.alloc (.cells #[v] t)).cell? ((⟨w.heap.size, 0, none⟩ : Addr).add j) = some u := by
  intro j u h
  match j, h with
  | 0, h => simp at h; subst h; simp [Addr.add]
  | j + 1, h => simp at h

def ChosenPost (outs : List Int) (w : World) (e : Ending) (w' : World) : Prop := ∃ v, e = .returned v ∧ w'.ownsRow w.heap.size 3 1 v outs.length (ints outs) ∧ Below w.heap.size w w'

set_option maxRecDepth 100000 in
set_option maxHeartbeats 4000000 in
theorem chosen_any (n m : Nat) (a : Option Addr) (cap : Nat) (zs : List Int) (w : World) (hn : 1 ≤ n) (hn2 : n ≤ 40) (hm : 1 ≤ m) (hm2 : m ≤ 20) (hi : IsInts .u8 w a zs) (hs : Steps zs) (hl : zs.length ≤ 1000) :
    Calls Try.prog 7 #[.int .i64 (n : Nat), .int .i64 (m : Nat), .slice a zs.length cap] w (ChosenPost (outP n m zs (-1, 0)) w) := by
  obtain ⟨ibb, hib, hz0, hz1, hz2⟩ := info_parts (show (Try.prog.info? 3).map (fun i => (i.zero, i.size, i.bytes)) = some (some (.int .i64 0), 1, 8) by kernel_rfl)
  have holen := outP_length n m zs (-1, 0)
  obtain ⟨outs, hR⟩ : ∃ R, R = outP n m zs (-1, 0) := ⟨_, rfl⟩
  rw [← hR] at holen ⊢
  have HR := Go.Lib.hid hR
  have HOL := Go.Lib.hid holen
  have HI := Go.Lib.hid hi
  have HS := Go.Lib.hid hs
  clear hR hi hs holen
  go_enter Try.func7, Try.ntmps7
  go_wp2_with fail
  refine (manager_any n m w hn hn2 hm hm2).mono ?_
  rintro e w1 hP
  obtain ⟨cb, ib, A, rfl, hcb, h1, b1⟩ := hP
  have H1 := Go.Lib.hid h1
  have B1 := Go.Lib.hid b1
  have hcs := h1.cs
  have his := h1.is
  clear h1 b1
  go_wp2_with fail
  go_loopw [8, 20] (fun v' i wr => ∃ (j : Nat) (sel frm : Int) (v : Value), v = v' ∧ j ≤ zs.length ∧ i = .int .i64 j ∧ Hid (outP n m (zs.drop j) (sel, frm) = outs.drop j ∧ Good n m sel frm ∧ CM wr cb ib A n m sel frm (.slice A n n) ∧ Below w.heap.size w wr ∧ w1.heap.size ≤ wr.heap.size ∧ wr.ownsRow w1.heap.size 3 1 v j (ints (outs.take j)))) (fun _ i _ => zs.length - (intOf i).toNat)
  case atStart => exact ⟨0, -1, 0, _, rfl, Nat.zero_le _, rfl, by rw [List.drop_zero, List.drop_zero]; exact HR.out.symm, ⟨by omega, by omega, by omega, by omega, fun _ => rfl, fun h => by omega⟩, H1.out, B1.out, Nat.le_refl _, World.ownsRow_nil _ _ _ _⟩
  case round =>
    obtain ⟨j, sel, frm, v, rfl, hj, rfl, HX⟩ := hrel
    by_cases hlt : j < zs.length
    · obtain ⟨hrun, hgood, hcm, hbel, hsz, hown⟩ := HX.out
      rcases HI.out.below hbel with h0 | ⟨b, off, rfl, hbl, hc⟩
      · rw [h0] at hlt; simp at hlt
      have cj := hc j hlt
      obtain ⟨hoj, hrun⟩ := outP_step hlt hrun
      have HN := Go.Lib.hid (HS.out j hlt)
      have HRUN := Go.Lib.hid hrun
      have HOJ := Go.Lib.hid hoj
      have HG := Go.Lib.hid hgood
      have HC := Go.Lib.hid hcm
      have HB := Go.Lib.hid hbel
      have HOWN := Go.Lib.hid hown
      generalize nth zs j = s at cj HN HRUN HOJ
      clear hrun hgood hcm hbel hc hoj hown HX
      have hj0 : (0 : Int) ≤ j := by omega
      have hj1 : (j : Int) < zs.length := by omega
      go_wp2_with fail
      refine (choose_any cb ib A n m sel frm s wr HC.out hn hn2 hm hm2 HG.out HN.out).mono ?_
      rintro e w2 ⟨rfl, h2, o2⟩
      have H2 := Go.Lib.hid h2
      have B2 : Hid (Below w.heap.size w w2) := HB.out.trans (o2.below hcb HB.out.size)
      have HG2 := Go.Lib.hid (Good.next (s := s) (by omega) (by omega) (by omega) HG.out)
      have HOWN2 : Hid (w2.ownsRow w1.heap.size 3 1 v (j : Nat) (ints (outs.take j))) := ownsRow_blocks HOWN.out fun k hk hk2 _ => o2.rest k hk2 (by omega)
      have hz2' : w1.heap.size ≤ w2.heap.size := Nat.le_trans hsz o2.size
      try dsimp only at HRUN HOJ HG2
      generalize nxtS n m sel frm s = N at HRUN HOJ HG2 H2
      generalize nxtF n m sel frm s = F at HRUN HOJ HG2 H2
      clear h2 o2
      go_wp2_with fail
      refine (place_any cb ib A n m N F _ w2 H2.out).mono ?_
      rintro e w2' ⟨rfl, q, rfl⟩
      have HC3 : Hid (CM (w2.drewN q) cb ib A n m N F (.slice A n n)) := H2.out.drewN q
      have HOWN3 : Hid ((w2.drewN q).ownsRow w1.heap.size 3 1 v (j : Nat) (ints (outs.take j))) := HOWN2.out
      have B3 : Hid (Below w.heap.size w (w2.drewN q)) := below_drewN B2.out _
      have hz3 : w1.heap.size ≤ (w2.drewN q).heap.size := hz2'
      have hlo := HOWN2.out.lt
      have HNW := Go.Lib.hid (news_one (w2.drewN q) (.int .i64 N) 3)
      go_wp2_with (at_builtin; refine wpList_append_lies _ rfl _ _ 26 rfl w1.heap.size 3 ibb (.int .i64 0) 1 8 Try.underlying26 hib hz0 hz1 hz2 rfl (by decide) v j (ints (outs.take j)) rfl (HOWN3.out.alloc _) ⟨w2.heap.size, 0, none⟩ 1 1 [.int .i64 N] rfl rfl HNW.out (by simp [Value.oneCell']) (by decide) ?c1 ?c2 ?c3 _ rfl ?_)
      case c1 => unfold maxLen; omega
      case c2 => omega
      case c3 => simp; omega
      intro g2 cap2 w3 hown3 hgrow3 _ _
      have HOWN4 : Hid (w3.ownsRow w1.heap.size 3 1 (.slice (some ⟨g2, 0, none⟩) (j + 1) cap2) (j + 1) (ints (outs.take (j + 1)))) := by rw [ints_take HOJ.out]; exact hown3
      have hb3 : Below w1.heap.size (w2.drewN q) w3 := ((Below.refl w1.heap.size _).alloc hz3 _).grown hgrow3 (by simp; omega) (fun k hk => (hlo k hk).1)
      have HC4 : Hid (CM w3 cb ib A n m N F (.slice A n n)) := HC3.out.blocks hb3.size (hb3.block cb hcs) (hb3.block ib his)
      have B4 : Hid (Below w.heap.size w w3) := B3.out.trans (hb3.mono B1.out.size)
      have hz4 : w1.heap.size ≤ w3.heap.size := Nat.le_trans hz3 hb3.size
      clear hown3 hgrow3 hb3 hlo
      go_wp2_with fail
      go_roundw
      case rel => exact ⟨j + 1, N, F, _, rfl, by omega, by go_num, HRUN.out, HG2.out, HC4.out, B4.out, hz4, HOWN4.out⟩
      case measure => simp [intOf]; omega
    · obtain ⟨hrun, hgood, hcm, hbel, hsz, hown⟩ := HX.out
      have e : j = outs.length := by have := HOL.out; omega
      rw [e, List.take_of_length_le (Nat.le_refl _)] at hown
      have HOWN := Go.Lib.hid hown
      have HB := Go.Lib.hid hbel
      clear hrun hgood hcm hbel hown HX
      have HE := Go.Lib.hid e
      clear e
      have hj1 : ¬ (j : Int) < zs.length := by omega
      go_wp2_with fail
      go_returns
      refine ⟨_, rfl, ?_, HB.out⟩
      obtain ⟨h1, h2⟩ := HOWN.out
      refine ⟨h1, ?_⟩
      rcases h2 with h0 | ⟨g, cap, cur, hv, hg, r⟩
      · exact .inl h0
      · exact .inr ⟨g, cap, cur, hv, by have := B1.out.size; omega, r⟩
end Go.Proofs.Ytmjgcfghejjleaa
