/- Where the lines of a document begin: lineStartIndexes. -/
import Derived.Test.YtedjjimabchffaaDocSplit
import Derived.OwnWalk
import Derived.Laws.OwnMore
namespace Go.Proofs.Ytedjjimabchffaa
open Go.RowKit
set_option linter.unusedVariables false
set_option linter.unusedSimpArgs false

/-- A block of n cells that may be written, the first k of them known integers. -/
def Part (w : World) (g n k : Nat) (f : Nat → Int) : Prop :=
  g < w.heap.size ∧ (∀ i, i < n → ∃ v, w.cell? ⟨g, i, none⟩ = some v) ∧ (∀ i, w.frozen? ⟨g, i, none⟩ = false) ∧ ∀ i, i < k → w.cell? ⟨g, i, none⟩ = some (.int .i64 (f i))

theorem Part.below {w w' : World} {g n k : Nat} {f : Nat → Int} (h : Part w g n k f) (hb : Below w.heap.size w w') : Part w' g n k f := by
  obtain ⟨h1, h2, h3, h4⟩ := h
  refine ⟨Nat.lt_of_lt_of_le h1 hb.size, fun i hi => ?_, fun i => ?_, fun i hi => ?_⟩
  · obtain ⟨v, hv⟩ := h2 i hi
    exact ⟨v, (hb.cell (p := ⟨g, i, none⟩) h1).trans hv⟩
  · exact (hb.frozen (p := ⟨g, i, none⟩) h1).trans (h3 i)
  · exact (hb.cell (p := ⟨g, i, none⟩) h1).trans (h4 i hi)

theorem Part.other {w : World} {g n k : Nat} {f : Nat → Int} (h : Part w g n k f) (a : Addr) (v : Value) (ha : a.block ≠ g) : Part (w.setCell a v) g n k f := by
  obtain ⟨h1, h2, h3, h4⟩ := h
  have e : ∀ i, (w.setCell a v).cell? ⟨g, i, none⟩ = w.cell? ⟨g, i, none⟩ := fun i => World.cell?_setCell_other _ _ _ _ (by intro e; exact ha (by rw [e]))
  refine ⟨by simpa using h1, fun i hi => by rw [e]; exact h2 i hi, fun i => ?_, fun i hi => by rw [e]; exact h4 i hi⟩
  rw [World.frozen?_setCell]; exact h3 i

theorem Part.store {w : World} {g n k : Nat} {f : Nat → Int} (h : Part w g n k f) (hk : k < n) : Part (w.setCell ⟨g, k, none⟩ (.int .i64 (f k))) g n (k + 1) f := by
  obtain ⟨h1, h2, h3, h4⟩ := h
  obtain ⟨v0, hv0⟩ := h2 k hk
  refine ⟨by simpa using h1, fun i hi => ?_, fun i => ?_, fun i hi => ?_⟩
  · by_cases e : i = k
    · exact ⟨_, by rw [e, World.cell?_setCell_same' _ _ _ (by rw [hv0]; rfl)]⟩
    · obtain ⟨v, hv⟩ := h2 i hi
      exact ⟨v, by rw [World.cell?_setCell_other _ _ _ _ (by intro h; exact e (by have := congrArg Addr.off h; simpa using this.symm))]; exact hv⟩
  · rw [World.frozen?_setCell]; exact h3 i
  · by_cases e : i = k
    · rw [e, World.cell?_setCell_same' _ _ _ (by rw [hv0]; rfl)]
    · rw [World.cell?_setCell_other _ _ _ _ (by intro h; exact e (by have := congrArg Addr.off h; simpa using this.symm))]
      exact h4 i (by omega)

theorem part_of_made {W : World} {B T g n cap : Nat} {xs : List Value} (f : Nat → Int) (h : W.ownsRow B T 1 (.slice (some ⟨g, 0, none⟩) n cap) n xs) : Part W g n 0 f := by
  have hl := h.1
  refine ⟨(h.lt g rfl).2, fun i hi => ?_, fun i => h.frozenAt i, fun i hi => by omega⟩
  have := h.cellAt i (by omega)
  exact ⟨xs[i]'(by omega), by rw [this, List.getElem?_eq_getElem]⟩

/-- How many beginnings of lines are told. -/
def rows (s : ByteArray) : Nat := if (lines s).length = 1 then 2 else (lines s).length

def StartsPost (s : ByteArray) (w : World) (e : Ending) (w' : World) : Prop :=
  ∃ g cap, e = .returned (.slice (some ⟨g, 0, none⟩) (rows s) cap) ∧ rows s ≤ cap ∧ cap ≤ 1002 ∧ w.heap.size ≤ g ∧ Part w' g (rows s) (rows s) (fun i => (startOf (lines s) i : Nat)) ∧ Below w.heap.size w w'

theorem startOf_ln (ls : List ByteArray) (k : Nat) (h : k < ls.length) : startOf ls (k + 1) = startOf ls k + ((ln ls k).size + 1) := by
  rw [startOf_succ ls k h, ln_eq ls k h]

theorem Part.less {w : World} {g n k : Nat} {f : Nat → Int} (h : Part w g n k f) (m : Nat) (hm : m ≤ n) (hk : m ≤ k) : Part w g m m f :=
  ⟨h.1, fun i hi => h.2.1 i (by omega), h.2.2.1, fun i hi => h.2.2.2 i (by omega)⟩

set_option maxHeartbeats 2000000 in
theorem starts_any (b : Nat) (s : ByteArray) (k : Nat) (w : World) (hd : DocAt w b s k) (hs : s.size ≤ 1000) :
    Calls Try.prog 54 #[.pointer (some ⟨b, 0, none⟩)] w (StartsPost s w) := by
  obtain ⟨ib, hib, hz0, hz1, hz2⟩ := info_parts (show (Try.prog.info? 3).map (fun i => (i.zero, i.size, i.bytes)) = some (some (.int .i64 0), 1, 8) by kernel_rfl)
  have HD := Go.Lib.hid hd
  have hll := lines_len s
  have hlaw := (lines_law s).1
  obtain ⟨ls, hls⟩ : ∃ ls, ls = lines s := ⟨_, rfl⟩
  obtain ⟨L, hL⟩ : ∃ L, L = ls.length := ⟨_, rfl⟩
  have hstart : ∀ k, k ≤ L → startOf ls k ≤ s.size + 1 := fun k hk => by
    have h1 := startOf_mono ls ls.length k (by omega) (Nat.le_refl _)
    have h2 := (lines_law s).2.1
    rw [← hls] at h2
    omega
  have HST := Go.Lib.hid hstart
  have hL1 : 1 ≤ L := by
    have := lines_ne s
    rw [← hls] at this
    have := List.length_pos_iff.2 this
    omega
  rw [← hls] at hll
  rw [← hL] at hll
  have HLs := Go.Lib.hid hls
  have HL := Go.Lib.hid hL
  clear hd hlaw hstart hls hL
  go_enter Try.func54, Try.ntmps54
  go_wp2_with fail
  refine (line_count b s k w HD.out hs).mono ?_
  rw [← HLs.out, ← HL.out]
  rintro e w1 ⟨rfl, hb1⟩
  go_wp2_with (at_make; refine wpList_make_full _ rfl _ _ 58 rfl w.heap.size 3 ib (.int .i64 0) 1 Try.underlying58 hib hz0 hz1 .i64 .i64 (L : Int) (L : Int) L rfl rfl rfl rfl ?c2 ?c3 ?c4 ?_)
  case c2 => rw [hz2]; omega
  case c3 => unfold maxLen; omega
  case c4 => exact hb1.size
  intro w2 hown hgrow
  have hP2 := part_of_made (fun i => ((ln ls i).size : Int)) hown
  have hb2 : Below w.heap.size w w2 := hb1.grown hgrow hb1.size (fun k hk => by cases hk)
  have hg1 := hb1.size
  obtain ⟨g1, hg1e⟩ : ∃ g1, g1 = w1.heap.size := ⟨_, rfl⟩
  rw [← hg1e] at hP2 hg1 ⊢
  clear hown hgrow hg1e hb1
  have HP2 := Go.Lib.hid hP2
  have hlt2 := hP2.1
  clear hP2
  go_wp2_with fail
  refine (lines_any b s k w2 (HD.out.below hb2) hs).mono ?_
  rw [← HLs.out]
  rintro e w3 ⟨g2, cap2, rfl, hg2, hS3, hb3⟩
  rw [← HL.out]
  have hP3 := HP2.out.below hb3
  have hb3' : Below w.heap.size w w3 := hb2.trans (hb3.mono hb2.size)
  have hg12 : g1 ≠ g2 := by omega
  have H3 : Hid (Part w3 g1 L 0 (fun i => ((ln ls i).size : Int)) ∧ StrsAt w3 g2 ls) := ⟨hP3, hS3⟩
  clear hP3 hS3 hb3 HP2 hlt2
  go_wp2_with fail
  go_loopw [18] (fun i wr => ∃ j : Nat, j ≤ L ∧ i = .int .i64 j ∧ Below w.heap.size w wr ∧ w3.heap.size ≤ wr.heap.size ∧ Hid (Part wr g1 L j (fun i => ((ln ls i).size : Int)) ∧ StrsAt wr g2 ls)) (fun i _ => L - (intOf i).toNat)
  case atStart => exact ⟨0, Nat.zero_le _, rfl, hb3', Nat.le_refl _, H3⟩
  case round =>
    obtain ⟨j, hj, rfl, hb, hsz, HP⟩ := hrel
    by_cases hlt : j < L
    · obtain ⟨⟨p1, p2, p3, p4⟩, hS⟩ := HP.out
      have hcs := hS.2 j (by rw [← HL.out]; exact hlt)
      obtain ⟨v0, hv0⟩ := p2 j hlt
      have hf0 := p3 j
      have hl2 := hS.1
      clear p2 p3 p4 hS
      go_wp2_with fail
      go_roundw
      case rel =>
        refine ⟨j + 1, by omega, by go_num, hb.setCell hg1 _, by simpa using hsz, ⟨HP.out.1.store hlt, ?_⟩⟩
        refine ⟨by simpa using hl2, fun i hi => ?_⟩
        rw [World.cell?_setCell_other _ _ _ _ (by intro e; exact hg12 (by have := congrArg Addr.block e; simpa using this))]
        exact HP.out.2.2 i hi
      case measure => simp [intOf]; omega
    · obtain rfl : j = L := by omega
      have hbs := hb.size
      have hP5 := HP.out.1
      have HP5 := Go.Lib.hid hP5
      have hl5 := hP5.1
      clear hP5 HP H3
      go_wp2_with (at_make; refine wpList_make_full _ rfl _ _ 58 rfl w.heap.size 3 ib (.int .i64 0) 1 Try.underlying58 hib hz0 hz1 .i64 .i64 ((j : Int) + 1) ((j : Int) + 1) (j + 1) rfl rfl ?c1 ?c1' ?c2 ?c3 ?c4 ?_)
      case c1 => omega
      case c1' => omega
      case c2 => rw [hz2]; omega
      case c3 => unfold maxLen; omega
      case c4 => exact hbs
      intro w6 hown hgrow
      have hP6 := part_of_made (fun i => ((startOf ls i : Nat) : Int)) hown
      have hb6 : Below w.heap.size w w6 := hb.grown hgrow hbs (fun k hk => by cases hk)
      have hPP : Part w6 g1 j j (fun i => ((ln ls i).size : Int)) := HP5.out.below ((Below.refl _ _).grown hgrow (Nat.le_refl _) (fun k hk => by cases hk))
      obtain ⟨g3, hg3e⟩ : ∃ g3, g3 = wr.heap.size := ⟨_, rfl⟩
      rw [← hg3e] at hP6 hl5 hbs ⊢
      obtain ⟨v0, hv0⟩ := hP6.2.1 0 (by omega)
      have hf0 := hP6.2.2.1 0
      have h01 : (0 : Int) < (j : Int) + 1 := by omega
      have hg13 : g1 ≠ g3 := by omega
      have hl6 := hP6.1
      have H6 : Hid (Part (w6.setCell ⟨g3, 0, none⟩ (.int .i64 0)) g3 (j + 1) 1 (fun i => ((startOf ls i : Nat) : Int)) ∧ Part (w6.setCell ⟨g3, 0, none⟩ (.int .i64 0)) g1 j j (fun i => ((ln ls i).size : Int))) := by
        refine ⟨?_, hPP.other _ _ (by simpa using Ne.symm hg13)⟩
        have := hP6.store (show 0 < j + 1 by omega)
        simpa [startOf_zero] using this
      clear hP6 hPP hown hgrow hg3e hb HP5
      go_wp2_with fail
      go_loopw [8, 36] (fun p i wx => ∃ m : Nat, m ≤ j ∧ i = .int .i64 m ∧ p = .int .i64 ((startOf ls m : Nat) : Int) ∧ Below w.heap.size w wx ∧ Hid (Part wx g3 (j + 1) (m + 1) (fun i => ((startOf ls i : Nat) : Int)) ∧ Part wx g1 j j (fun i => ((ln ls i).size : Int)))) (fun _ i _ => j - (intOf i).toNat)
      case atStart => exact ⟨0, Nat.zero_le _, rfl, by rw [startOf_zero]; rfl, hb6.setCell (by omega) _, H6⟩
      case round =>
        obtain ⟨m, hm, rfl, rfl, hbx, HX⟩ := hrel
        by_cases hlt : m < j
        · obtain ⟨⟨q1, q2, q3, q4⟩, ⟨r1, r2, r3, r4⟩⟩ := HX.out
          have hc1 := r4 m hlt
          obtain ⟨v1, hv1⟩ := q2 (m + 1) (by omega)
          have hf1 := q3 (m + 1)
          clear q2 q3 q4 r2 r3 r4
          have hsx := startOf_ln ls m (by rw [← HL.out]; exact hlt)
          have hbd := HST.out (m + 1) (by omega)
          have hnum : ((startOf ls m : Nat) : Int) + (((ln ls m).size : Int) + 1) = ((startOf ls (m + 1) : Nat) : Int) := by omega
          have HN := Go.Lib.hid hnum
          have hbd2 : startOf ls m + ((ln ls m).size + 1) ≤ s.size + 1 := by omega
          clear hnum hsx hbd
          have hm1 : (m : Int) + 1 < (j : Int) + 1 := by omega
          go_wp2_with fail
          go_roundw
          case rel =>
            refine ⟨m + 1, by omega, by go_num, congrArg (Value.int .i64) HN.out, hbx.setCell (by omega) _, ?_, HX.out.2.other _ _ (by simpa using Ne.symm hg13)⟩
            have := HX.out.1.store (show m + 1 < j + 1 by omega)
            rw [HN.out]
            simpa using this
          case measure => simp [intOf]; omega
        · obtain rfl : m = j := by omega
          have hrow := HX.out.1
          have HR := Go.Lib.hid hrow
          clear hrow HX
          by_cases h1 : (1 : Int) < m
          · have hm0 : (0 : Int) ≤ m := by omega
            have hm1 : (m : Int) ≤ ((m + 1 : Nat) : Int) := by omega
            go_wp2_with fail
            go_returns
            have hr : rows s = m := by unfold rows; rw [← HLs.out, ← HL.out, if_neg (by omega)]
            refine ⟨g3, m + 1, by rw [hr]; rfl, by omega, by omega, by omega, ?_, hbx⟩
            rw [hr, ← HLs.out]
            exact HR.out.less m (by omega) (by omega)
          · go_wp2_with fail
            go_returns
            have hr : rows s = m + 1 := by unfold rows; rw [← HLs.out, ← HL.out, if_pos (by omega)]; omega
            refine ⟨g3, m + 1, by rw [hr]; rfl, by omega, by omega, by omega, ?_, hbx⟩
            rw [hr, ← HLs.out]
            exact HR.out
end Go.Proofs.Ytedjjimabchffaa
