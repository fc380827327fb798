/- Runes.Aggregate: the longest head that the texts share, and its length. -/
import Derived.Test.YtmkefndmiagoaaaDoorFits
import Derived.Deep.RegionWith
import Derived.Deep.QuietTactic
import Derived.BigQuiet
import Derived.WalkSmall
import Derived.WalkMore
import Derived.ScopeJumps
import Derived.Deep.Cut
import Derived.Deep.CutRange
namespace Go.Proofs.YtmkefndmiagoaaaDoor
open Go.RowKit
set_option linter.unusedVariables false
set_option linter.unusedSimpArgs false

/-- The texts from j0 on, each a slice in the cells of block g, each row in a block of its own. -/
def Cands (w : World) (g k : Nat) (Z : Nat → List Int) (j0 : Nat) : Prop :=
  ∀ j, j0 ≤ j → j < k → ∃ gj cj, w.cell? ⟨g, j, none⟩ = some (.slice (some ⟨gj, 0, none⟩) (Z j).length cj) ∧ w.frozen? ⟨g, j, none⟩ = false ∧ (Z j).length ≤ cj ∧ gj < w.heap.size ∧ gj ≠ g ∧ RuneRow w (some ⟨gj, 0, none⟩) (Z j)

theorem RuneRow.below {w w' : World} {b : Nat} {zs : List Int} (h : RuneRow w (some ⟨b, 0, none⟩) zs) (hb : Below w.heap.size w w') : RuneRow w' (some ⟨b, 0, none⟩) zs := fun j hj => by
  obtain ⟨g, o, e, hc⟩ := h j hj
  exact ⟨g, o, e, (hb.cell (p := ⟨g, o + j, none⟩) (lt_of_cell hc)).trans hc⟩

theorem Cands.below {w w' : World} {g k : Nat} {Z : Nat → List Int} {j0 : Nat} (h : Cands w g k Z j0) (hb : Below w.heap.size w w') : Cands w' g k Z j0 := fun j h0 hj => by
  obtain ⟨gj, cj, h1, h2, h3, h4, h5, h6⟩ := h j h0 hj
  have hl := lt_of_cell h1
  exact ⟨gj, cj, (hb.cell (p := ⟨g, j, none⟩) hl).trans h1, (hb.frozen (p := ⟨g, j, none⟩) hl).trans h2, h3, Nat.lt_of_lt_of_le h4 hb.size, h5, h6.below hb⟩

theorem RuneRow.take {w : World} {b : Nat} {zs : List Int} (h : RuneRow w (some ⟨b, 0, none⟩) zs) (S : Nat) : RuneRow w (some ⟨b, 0, none⟩) (zs.take S) := fun j hj => by
  have hj' : j < S ∧ j < zs.length := by simp at hj; omega
  obtain ⟨g, o, e, hc⟩ := h j hj'.2
  refine ⟨g, o, e, hc.trans ?_⟩
  simp [nth, hj'.1]

theorem RuneRow.set {w : World} {b : Nat} {zs : List Int} (h : RuneRow w (some ⟨b, 0, none⟩) zs) {g : Nat} (hg : b ≠ g) (j : Nat) (v : Value) : RuneRow (w.setCell ⟨g, j, none⟩ v) (some ⟨b, 0, none⟩) zs := fun i hi => by
  obtain ⟨_, _, e, hc⟩ := h i hi
  cases e
  exact ⟨b, 0, rfl, by rw [World.cell?_setCell_other _ _ _ _ (by intro e; have := congrArg Addr.block e; simp at this; omega), hc]⟩

theorem OwnRow.below {w w' : World} {B : Nat} {zs : List Int} (h : OwnRow w B zs) (hb : Below w.heap.size w w') : OwnRow w' B zs := by
  obtain ⟨cur, h1, h2, h3⟩ := h
  have hl : B < w.heap.size := by
    by_cases hl : B < w.heap.size
    · exact hl
    · have : w.heap[B]? = none := by simp; omega
      rw [this] at h1; cases h1
  exact ⟨cur, (hb.block B hl).trans h1, h2, h3⟩

theorem OwnRow.set {w : World} {B : Nat} {zs : List Int} (h : OwnRow w B zs) {g : Nat} (hg : g ≠ B) (j : Nat) (v : Value) : OwnRow (w.setCell ⟨g, j, none⟩ v) B zs := by
  obtain ⟨cur, h1, h2, h3⟩ := h
  exact ⟨cur, (Below.heap_setCell _ _ _ _ (Ne.symm hg)).trans h1, h2, h3⟩

theorem Cands.set {w : World} {g k : Nat} {Z : Nat → List Int} {j : Nat} (h : Cands w g k Z j) (v : Value) : Cands (w.setCell ⟨g, j, none⟩ v) g k Z (j + 1) := fun i h0 hi => by
  obtain ⟨gj, cj, h1, h2, h3, h4, h5, h6⟩ := h i (by omega) hi
  refine ⟨gj, cj, ?_, ?_, h3, by simpa using h4, h5, h6.set h5 _ _⟩
  · rw [World.cell?_setCell_other _ _ _ _ (by intro e; have := congrArg Addr.off e; simp at this; omega), h1]
  · simpa [go_sem] using h2

theorem drop_cell (zs : List Int) (S i : Nat) (v : Value) (hi : ((zs.drop S).map fun z => Value.int .i32 z)[i]? = some v) : S + i < zs.length ∧ v = .int .i32 (nth zs (S + i)) := by
  have hi' : S + i < zs.length := by have := (List.getElem?_eq_some_iff.1 hi).1; simp at this; omega
  refine ⟨hi', ?_⟩
  simp [hi'] at hi
  rw [← hi, nth_eq zs (S + i) hi']

theorem drop_cells (zs : List Int) (S : Nat) : ∀ v ∈ ((zs.drop S).map fun z => Value.int .i32 z), v.oneCell' = true := fun v hv => by
  obtain ⟨x, _, rfl⟩ := List.mem_map.1 hv
  rfl

def AggPost (Z : Nat → List Int) (k base : Nat) (w : World) (e : Ending) (w' : World) : Prop :=
  ∃ S B : Nat, IsCommon Z k S ∧ Below base w w' ∧ ((S = 0 ∧ e = .returned (.tuple #[.slice none 0 0, .int .i64 0])) ∨ (0 < S ∧ e = .returned (.tuple #[.slice (some ⟨B, 0, none⟩) S S, .int .i64 S]) ∧ OwnRow w' B ((Z 0).take S)))

set_option maxHeartbeats 4000000 in
set_option maxRecDepth 100000 in
theorem agg_any (w : World) (g cap k base : Nat) (Z : Nat → List Int) (hc : Cands w g k Z 0) (hk0 : 0 < k) (hk : k ≤ 20) (hcap : k ≤ cap) (hZ : ∀ j, j < k → (Z j).length ≤ 300) (hbase : base ≤ g) (hg : g < w.heap.size) :
    Calls Tryd.prog 23 #[.agg #[], .slice (some ⟨g, 0, none⟩) k cap] w (AggPost Z k base w) := by
  have HC := Go.Lib.hid hc
  have HZ := Go.Lib.hid hZ
  obtain ⟨g0, c0, hc0, _, hl0, hg0, hgg0, hr0⟩ := hc 0 (Nat.le_refl _) hk0
  have hn0 := hZ 0 hk0
  obtain ⟨n0, hn⟩ : ∃ n, n = (Z 0).length := ⟨_, rfl⟩
  rw [← hn] at hc0 hl0 hn0
  have Hn := Go.Lib.hid hn
  have HR0 := Go.Lib.hid hr0
  clear hc hZ hr0 hn
  have hld : ∀ (W : World) (a : Addr), (loadVar 54 a).run Tryd.prog W = .ok (.agg #[]) W := fun W a => by kernel_rfl
  go_enter Tryd.func23, Tryd.ntmps23
  go_wp2_with fail
  obtain ⟨J, hJ⟩ : ∃ J : Act → World → Prop, ∀ a' w', J a' w' ↔ ∃ (S : Nat) (u6 u7 u10 u11 u12 u13 u14 u15 u16 u17 u18 u19 u20 u21 u22 u23 u24 u25 u26 u27 u28 u29 u30 u31 u32 u33 u34 u35 u36 u37 u38 u39 u40 u41 u42 u43 u44 u45 u46 u47 u48 u49 u50 u51 u52 u53 u54 u55 u56 u57 u58 u59 : Value), a' = { tmps := #[.agg #[], .slice (some ⟨g, 0, none⟩) k cap, .pointer (some ⟨w.heap.size, 0, none⟩), undef, .slice none 0 0, .int .i64 (S : Nat), u6, u7, undef, undef, u10, u11, u12, u13, u14, u15, u16, u17, u18, u19, u20, u21, u22, u23, u24, u25, u26, u27, u28, u29, u30, u31, u32, u33, u34, u35, u36, u37, u38, u39, u40, u41, u42, u43, u44, u45, u46, u47, u48, u49, u50, u51, u52, u53, u54, u55, u56, u57, u58, u59, undef, undef, undef, undef, undef, undef, undef, undef, undef, undef, undef, undef, undef, undef, undef, undef, undef, undef, undef, undef, undef, undef, undef, undef, undef, undef, undef, undef, undef, undef, undef, undef, undef, undef, undef], defers := [] } ∧ Hid (IsCommon Z k S) ∧ Below w.heap.size w w' := ⟨_, fun _ _ => Iff.rfl⟩
  have HJ0 := Go.Lib.hid hJ
  clear hJ
  refine wp_scope_jumps 0 J (fun _ _ => 0) rfl ?_ ?_
  · go_wp2_with fail
    go_loopw [5, 6] (fun s i wr => ∃ m : Nat, m ≤ n0 ∧ s = .int .i64 m ∧ i = .int .i64 m ∧ Below w.heap.size w wr ∧ Hid (∀ i, i < m → ∀ j, j < k → SameAt Z j i)) (fun _ i _ => n0 - (intOf i).toNat)
    case atStart => exact ⟨0, Nat.zero_le _, rfl, rfl, (Below.refl _ _).alloc (Nat.le_refl _) _, fun i hi => by omega⟩
    case round =>
      obtain ⟨m, hm, rfl, rfl, hb, HA⟩ := hrel
      have hck0 : wr.cell? ⟨g, 0, none⟩ = _ := (hb.cell (p := ⟨g, 0, none⟩) hg).trans hc0
      by_cases hlt : m < n0
      · go_wp2_with fail
        go_loopw [7] (fun v wr2 => ∃ j : Nat, j + 1 ≤ k ∧ v = .int .i64 j ∧ Below w.heap.size w wr2 ∧ Hid (∀ j', j' ≤ j → SameAt Z j' m)) (fun v _ => k - (intOf v).toNat)
        case atStart => exact ⟨0, by omega, rfl, hb, fun j' hj' => by
          obtain rfl : j' = 0 := by omega
          exact ⟨by rw [← Hn.out]; exact hlt, rfl⟩⟩
        case round =>
          obtain ⟨j, hj, rfl, hb2, HJ⟩ := hrel
          by_cases hj1 : j + 1 < k
          · have hj1' : (j : Int) < (k : Int) - 1 := by omega
            obtain ⟨ga, ca, hca, _, hla, hga, _, hra⟩ := HC.out j (Nat.zero_le _) (by omega)
            obtain ⟨gb, cb, hcb, _, hlb, hgb, _, hrb⟩ := HC.out (j + 1) (Nat.zero_le _) hj1
            have hca' : wr.cell? ⟨g, j, none⟩ = _ := (hb2.cell (p := ⟨g, j, none⟩) hg).trans hca
            have hcb' : wr.cell? ⟨g, j + 1, none⟩ = _ := (hb2.cell (p := ⟨g, j + 1, none⟩) hg).trans hcb
            obtain ⟨la, hla'⟩ : ∃ n, n = (Z j).length := ⟨_, rfl⟩
            obtain ⟨lb, hlb'⟩ : ∃ n, n = (Z (j + 1)).length := ⟨_, rfl⟩
            rw [← hla'] at hca' hla
            rw [← hlb'] at hcb' hlb
            have hma : m < la := by rw [hla']; exact (HJ.out j (Nat.le_refl _)).1
            obtain ⟨_, _, ea, hma1⟩ := hra m (by rw [← hla']; exact hma)
            cases ea
            have hma' : wr.cell? ⟨ga, m, none⟩ = some (.int .i32 (nth (Z j) m)) := by
              have := (hb2.cell (p := ⟨ga, 0 + m, none⟩) hga).trans hma1
              rwa [Nat.zero_add] at this
            have HLB := Go.Lib.hid hlb'
            have HRB := Go.Lib.hid hrb
            have HEA := Go.Lib.hid (HJ.out j (Nat.le_refl _)).2
            clear hca hcb hma1 hrb hra hla' hlb'
            by_cases hmb : m < lb
            · obtain ⟨_, _, eb, hmb1⟩ := HRB.out m (by rw [← HLB.out]; exact hmb)
              cases eb
              have hmb' : wr.cell? ⟨gb, m, none⟩ = some (.int .i32 (nth (Z (j + 1)) m)) := by
                have := (hb2.cell (p := ⟨gb, 0 + m, none⟩) hgb).trans hmb1
                rwa [Nat.zero_add] at this
              clear hmb1
              by_cases hxy : nth (Z j) m = nth (Z (j + 1)) m
              · have hxy' : (nth (Z j) m != nth (Z (j + 1)) m) = false := by simp [hxy]
                have HXY := Go.Lib.hid hxy
                clear hxy
                go_wp2_with fail
                go_quiet (fail)
                go_wp2_with fail
                go_roundw
                case rel => exact ⟨j + 1, hj1, by go_num, below_drewN hb2 _, fun j' hj' => by
                  by_cases e : j' ≤ j
                  · exact HJ.out j' e
                  · obtain rfl : j' = j + 1 := by omega
                    exact ⟨by rw [← HLB.out]; exact hmb, HXY.out.symm.trans HEA.out⟩⟩
                case measure => simp [intOf]; omega
              · have hxy' : (nth (Z j) m != nth (Z (j + 1)) m) = true := by simp [hxy]
                have HXY := Go.Lib.hid hxy
                clear hxy
                go_wp2_with fail
                go_quiet (fail)
                go_wp2_with fail
                go_step3
                exact ⟨rfl, (HJ0.out _ _).2 ⟨m, _, _, _, _, _, _, _, _, _, _, _, _, _, _, _, _, _, _, _, _, _, _, _, _, _, _, _, _, _, _, _, _, _, _, _, _, _, _, _, _, _, _, _, _, _, _, _, _, _, _, _, _, rfl, ⟨by rw [← Hn.out]; exact hm, HA.out, .inr ⟨j + 1, hj1, fun h => HXY.out (HEA.out.trans h.2.symm)⟩⟩, below_drewN hb2 _⟩⟩
            · go_wp2_with fail
              go_step3
              exact ⟨rfl, (HJ0.out _ _).2 ⟨m, _, _, _, _, _, _, _, _, _, _, _, _, _, _, _, _, _, _, _, _, _, _, _, _, _, _, _, _, _, _, _, _, _, _, _, _, _, _, _, _, _, _, _, _, _, _, _, _, _, _, _, _, rfl, ⟨by rw [← Hn.out]; exact hm, HA.out, .inr ⟨j + 1, hj1, fun h => hmb (by rw [HLB.out]; exact h.1)⟩⟩, hb2⟩⟩
          · have hj1' : ¬ (j : Int) < (k : Int) - 1 := by omega
            go_wp2_with fail
            go_roundw
            case rel => exact ⟨m + 1, by omega, by go_num, by go_num, hb2, fun i hi j' hj' => by
              by_cases e : i < m
              · exact HA.out i e j' hj'
              · obtain rfl : i = m := by omega
                exact HJ.out j' (by omega)⟩
            case measure => simp [intOf]; omega
      · have HS : Hid (IsCommon Z k m) := ⟨by rw [← Hn.out]; exact hm, HA.out, .inl (by rw [← Hn.out]; omega)⟩
        clear HA
        obtain ⟨S, hS⟩ : ∃ S, S = m := ⟨_, rfl⟩
        subst hS
        go_wp2_with fail
        go_step3
        have hb0 : Below base w wr := hb.mono (by omega)
        by_cases h0 : S = 0
        · subst h0
          go_wp2_with fail
          go_returns
          exact ⟨0, 0, HS.out, hb0, .inl ⟨rfl, rfl⟩⟩
        have hS0 : (0 : Int) < S := by omega
        have hS1 : S ≤ n0 := by rw [Hn.out]; exact HS.out.1
        have hck0 : wr.cell? ⟨g, 0, none⟩ = _ := (hb.cell (p := ⟨g, 0, none⟩) hg).trans hc0
        have HL : Hid (S = ((Z 0).take S).length) := by show _ = _; simp; have := Hn.out; omega
        have HR : Hid (RuneRow wr.drew (some ⟨g0, 0, none⟩) ((Z 0).take S)) := (HR0.out.below hb).take S
        go_upto_region 11 with fail
        go_cut [4] from 60 to 68 (fun v wx => ∃ B : Nat, v = .slice (some ⟨B, 0, none⟩) S S ∧ Below w.heap.size w wx ∧ g ≠ B ∧ Hid (OwnRow wx B ((Z 0).take S)))
        case first =>
          go_region_with ((go_at_call 28; refine (copy_any (some ⟨g0, 0, none⟩) S c0 ((Z 0).take S) wr.drew HL.out HR.out (by omega)).mono ?_; rintro e w1 ⟨B, rfl, hB1, hB2, hOwn, hbw⟩))
          all_goals (try go_simp)
          all_goals (try go_wp2_with fail)
          all_goals go_meet
          all_goals exact ⟨B, rfl, hb.drew.trans (hbw.mono hb.size), by have := hb.size; simp at hB1; omega, hOwn⟩
        case rest =>
        obtain ⟨B, rfl, hb1, hgB, hO1⟩ := hcut
        clear hck0
        go_wp2_with fail
        go_loopw [8] (fun v wr => ∃ j : Nat, j ≤ k ∧ v = .int .i64 j ∧ Below base w wr ∧ Hid (Cands wr g k Z j) ∧ Hid (OwnRow wr B ((Z 0).take S))) (fun v _ => k - (intOf v).toNat)
        case atStart => exact ⟨0, Nat.zero_le _, rfl, hb1.mono (by omega), HC.out.below hb1, hO1⟩
        case round =>
          obtain ⟨j, hj, rfl, hb3, HC3, HO⟩ := hrel
          by_cases hjk : j < k
          · obtain ⟨ga, ca, hca, hfa, hla, hga, hgga, hra⟩ := HC3.out j (Nat.le_refl _) hjk
            have h300 := HZ.out j hjk
            obtain ⟨la, hla'⟩ : ∃ n, n = (Z j).length := ⟨_, rfl⟩
            have hSl : S ≤ la := by
              have := (HS.out.2.1 (S - 1) (by omega) j hjk).1
              omega
            rw [← hla'] at hca hla h300
            have HLa := Go.Lib.hid hla'
            have HRa : Hid (RuneRow wr.drew (some ⟨ga, 0, none⟩) (Z j)) := hra
            have hg3 := lt_of_cell hca
            clear hla' hra
            go_upto_region 15 with fail
            go_cut [9] from 69 to 94 (fun v wx => ∃ B4 : Nat, v = .slice (some ⟨B4, 0, none⟩) la la ∧ wr.heap.size ≤ B4 ∧ Below wr.heap.size wr wx ∧ Hid (OwnRow wx B4 (Z j)))
            case first =>
              go_region_with ((go_at_call 28; refine (copy_any (some ⟨ga, 0, none⟩) la ca (Z j) wr.drew HLa.out HRa.out (by omega)).mono ?_; rintro e w4 ⟨B4, rfl, hB41, hB42, hOwn4, hbw4⟩))
              all_goals (try go_simp)
              all_goals (try go_wp2_with fail)
              all_goals go_meet
              all_goals exact ⟨B4, rfl, hB41, (Below.refl _ wr).drew.trans hbw4, hOwn4⟩
            case rest =>
            obtain ⟨B4, rfl, hB41, hb4, hO4⟩ := hcut
            obtain ⟨cur4, hh4, hcs4, hcc4⟩ := hO4.out
            have HH4 := Go.Lib.hid hh4
            have HCS := Go.Lib.hid hcs4
            have HCC := Go.Lib.hid hcc4
            clear hh4 hcs4 hcc4
            obtain ⟨A5, hA5, ha5⟩ := run_cut (P := Tryd.prog) 51 21 Tryd.underlying51 sizeI32 B4 0 la la S (S : Int) rfl hSl (Nat.le_refl _)
            have HA5 := Go.Lib.hid ha5
            clear ha5
            go_wp2_with (with_reducible refine wpList_copy_splice rfl _ _ 51 51 rfl 21 Tryd.underlying51 ?k0 (some ⟨B4, 0, none⟩) A5 la la (la - S) (la - S) rfl rfl B4 0 cur4.toList 21 ?k1 (((Z j).drop S).map fun z => .int .i32 z) ?k2 ?k3 ?k4 ?k5 wr.heap.size wr hb4 hB41 ?_)
            case k0 => kernel_rfl
            case k1 => simpa using HH4.out
            case k2 => rw [List.length_map, List.length_drop, ← HLa.out]; exact (Nat.min_eq_left (Nat.sub_le _ _)).symm
            case k3 =>
              intro h0
              have hla2 := HLa.out
              obtain rfl := HA5.out (by omega)
              refine ⟨_, rfl, fun i v hi => ?_⟩
              obtain ⟨hi', e⟩ := List.getElem?_eq_some_iff.1 hi
              have ha : (⟨B4, 0 + S, none⟩ : Addr).add i = ⟨B4, S + i, none⟩ := by
                unfold Addr.add; split
                · rename_i h; rw [h]; simp
                · simp
              rw [ha, OwnRow.cell ⟨cur4, HH4.out, HCS.out, HCC.out⟩ (S + i) hi', nth_eq (Z j) (S + i) hi', e]
            case k4 => have := HCS.out; simp; omega
            case k5 => exact drop_cells _ _
            intro w6 _ hb6
            have hca6 : w6.cell? ⟨g, j, none⟩ = _ := (hb6.cell (p := ⟨g, j, none⟩) hg3).trans hca
            have hfa6 : w6.frozen? ⟨g, j, none⟩ = false := (hb6.frozen (p := ⟨g, j, none⟩) hg3).trans hfa
            have HC6 : Hid (Cands w6 g k Z j) := HC3.out.below hb6
            have HO6 : Hid (OwnRow w6 B ((Z 0).take S)) := HO.out.below hb6
            have hbt := hb3.trans (hb6.mono (Nat.le_trans (Nat.le_trans hbase (Nat.le_of_lt hg)) (by have := hb3.size; omega)))
            go_wp2_with fail
            go_roundw
            case rel => exact ⟨j + 1, hjk, by go_num, hbt.setCell hbase _, HC6.out.set _, HO6.out.set hgB _ _⟩
            case measure => simp [intOf]; omega
          · go_wp2_with fail
            go_returns
            exact ⟨S, B, HS.out, hb3, .inr ⟨by omega, rfl, HO.out⟩⟩
  · intro a' wr hj
    obtain ⟨S, u6, u7, u10, u11, u12, u13, u14, u15, u16, u17, u18, u19, u20, u21, u22, u23, u24, u25, u26, u27, u28, u29, u30, u31, u32, u33, u34, u35, u36, u37, u38, u39, u40, u41, u42, u43, u44, u45, u46, u47, u48, u49, u50, u51, u52, u53, u54, u55, u56, u57, u58, u59, rfl, HS, hb⟩ := (HJ0.out _ _).1 hj
    clear hj HJ0
    generalize (fun (a' : Act) (w' : World) => J a' w' ∧ _) = J2
    have hb0 : Below base w wr := hb.mono (by omega)
    by_cases h0 : S = 0
    · subst h0
      go_wp2_with fail
      go_returns
      exact ⟨0, 0, HS.out, hb0, .inl ⟨rfl, rfl⟩⟩
    have hS0 : (0 : Int) < S := by omega
    have hS1 : S ≤ n0 := by rw [Hn.out]; exact HS.out.1
    have hck0 : wr.cell? ⟨g, 0, none⟩ = _ := (hb.cell (p := ⟨g, 0, none⟩) hg).trans hc0
    have HL : Hid (S = ((Z 0).take S).length) := by show _ = _; simp; have := Hn.out; omega
    have HR : Hid (RuneRow wr.drew (some ⟨g0, 0, none⟩) ((Z 0).take S)) := (HR0.out.below hb).take S
    go_upto_region 11 with fail
    go_cut [4] from 60 to 68 (fun v wx => ∃ B : Nat, v = .slice (some ⟨B, 0, none⟩) S S ∧ Below w.heap.size w wx ∧ g ≠ B ∧ Hid (OwnRow wx B ((Z 0).take S)))
    case first =>
      go_region_with ((go_at_call 28; refine (copy_any (some ⟨g0, 0, none⟩) S c0 ((Z 0).take S) wr.drew HL.out HR.out (by omega)).mono ?_; rintro e w1 ⟨B, rfl, hB1, hB2, hOwn, hbw⟩))
      all_goals (try go_simp)
      all_goals (try go_wp2_with fail)
      all_goals go_meet
      all_goals exact ⟨B, rfl, hb.drew.trans (hbw.mono hb.size), by have := hb.size; simp at hB1; omega, hOwn⟩
    case rest =>
    obtain ⟨B, rfl, hb1, hgB, hO1⟩ := hcut
    clear hck0
    go_wp2_with fail
    go_loopw [8] (fun v wr => ∃ j : Nat, j ≤ k ∧ v = .int .i64 j ∧ Below base w wr ∧ Hid (Cands wr g k Z j) ∧ Hid (OwnRow wr B ((Z 0).take S))) (fun v _ => k - (intOf v).toNat)
    case atStart => exact ⟨0, Nat.zero_le _, rfl, hb1.mono (by omega), HC.out.below hb1, hO1⟩
    case round =>
      obtain ⟨j, hj, rfl, hb3, HC3, HO⟩ := hrel
      by_cases hjk : j < k
      · obtain ⟨ga, ca, hca, hfa, hla, hga, hgga, hra⟩ := HC3.out j (Nat.le_refl _) hjk
        have h300 := HZ.out j hjk
        obtain ⟨la, hla'⟩ : ∃ n, n = (Z j).length := ⟨_, rfl⟩
        have hSl : S ≤ la := by
          have := (HS.out.2.1 (S - 1) (by omega) j hjk).1
          omega
        rw [← hla'] at hca hla h300
        have HLa := Go.Lib.hid hla'
        have HRa : Hid (RuneRow wr.drew (some ⟨ga, 0, none⟩) (Z j)) := hra
        have hg3 := lt_of_cell hca
        clear hla' hra
        go_upto_region 15 with fail
        go_cut [9] from 69 to 94 (fun v wx => ∃ B4 : Nat, v = .slice (some ⟨B4, 0, none⟩) la la ∧ wr.heap.size ≤ B4 ∧ Below wr.heap.size wr wx ∧ Hid (OwnRow wx B4 (Z j)))
        case first =>
          go_region_with ((go_at_call 28; refine (copy_any (some ⟨ga, 0, none⟩) la ca (Z j) wr.drew HLa.out HRa.out (by omega)).mono ?_; rintro e w4 ⟨B4, rfl, hB41, hB42, hOwn4, hbw4⟩))
          all_goals (try go_simp)
          all_goals (try go_wp2_with fail)
          all_goals go_meet
          all_goals exact ⟨B4, rfl, hB41, (Below.refl _ wr).drew.trans hbw4, hOwn4⟩
        case rest =>
        obtain ⟨B4, rfl, hB41, hb4, hO4⟩ := hcut
        obtain ⟨cur4, hh4, hcs4, hcc4⟩ := hO4.out
        have HH4 := Go.Lib.hid hh4
        have HCS := Go.Lib.hid hcs4
        have HCC := Go.Lib.hid hcc4
        clear hh4 hcs4 hcc4
        obtain ⟨A5, hA5, ha5⟩ := run_cut (P := Tryd.prog) 51 21 Tryd.underlying51 sizeI32 B4 0 la la S (S : Int) rfl hSl (Nat.le_refl _)
        have HA5 := Go.Lib.hid ha5
        clear ha5
        go_wp2_with (with_reducible refine wpList_copy_splice rfl _ _ 51 51 rfl 21 Tryd.underlying51 ?k0 (some ⟨B4, 0, none⟩) A5 la la (la - S) (la - S) rfl rfl B4 0 cur4.toList 21 ?k1 (((Z j).drop S).map fun z => .int .i32 z) ?k2 ?k3 ?k4 ?k5 wr.heap.size wr hb4 hB41 ?_)
        case k0 => kernel_rfl
        case k1 => simpa using HH4.out
        case k2 => rw [List.length_map, List.length_drop, ← HLa.out]; exact (Nat.min_eq_left (Nat.sub_le _ _)).symm
        case k3 =>
          intro h0
          have hla2 := HLa.out
          obtain rfl := HA5.out (by omega)
          refine ⟨_, rfl, fun i v hi => ?_⟩
          obtain ⟨hi', e⟩ := List.getElem?_eq_some_iff.1 hi
          have ha : (⟨B4, 0 + S, none⟩ : Addr).add i = ⟨B4, S + i, none⟩ := by
            unfold Addr.add; split
            · rename_i h; rw [h]; simp
            · simp
          rw [ha, OwnRow.cell ⟨cur4, HH4.out, HCS.out, HCC.out⟩ (S + i) hi', nth_eq (Z j) (S + i) hi', e]
        case k4 => have := HCS.out; simp; omega
        case k5 => exact drop_cells _ _
        intro w6 _ hb6
        have hca6 : w6.cell? ⟨g, j, none⟩ = _ := (hb6.cell (p := ⟨g, j, none⟩) hg3).trans hca
        have hfa6 : w6.frozen? ⟨g, j, none⟩ = false := (hb6.frozen (p := ⟨g, j, none⟩) hg3).trans hfa
        have HC6 : Hid (Cands w6 g k Z j) := HC3.out.below hb6
        have HO6 : Hid (OwnRow w6 B ((Z 0).take S)) := HO.out.below hb6
        have hbt := hb3.trans (hb6.mono (Nat.le_trans (Nat.le_trans hbase (Nat.le_of_lt hg)) (by have := hb3.size; omega)))
        go_wp2_with fail
        go_roundw
        case rel => exact ⟨j + 1, hjk, by go_num, hbt.setCell hbase _, HC6.out.set _, HO6.out.set hgB _ _⟩
        case measure => simp [intOf]; omega
      · go_wp2_with fail
        go_returns
        exact ⟨S, B, HS.out, hb3, .inr ⟨by omega, rfl, HO.out⟩⟩
end Go.Proofs.YtmkefndmiagoaaaDoor
