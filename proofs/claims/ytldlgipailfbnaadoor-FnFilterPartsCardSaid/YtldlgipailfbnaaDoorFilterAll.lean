/- impl.Filtered. -/
import Derived.Test.YtldlgipailfbnaaDoorFilterRun
namespace Go.Proofs.YtldlgipailfbnaaDoor
open Go.RowKit
set_option linter.unusedVariables false
set_option linter.unusedSimpArgs false

theorem own_take {w : World} {B T : Nat} {A : Option Addr} {cap j : Nat} {ps : List Pk} (hj : j < ps.length) (h : w.ownsRow B T 2 (.slice A (j + 1) cap) (j + 1) (pkCells (ps.take j) ++ (pkAt ps j).cells)) : w.ownsRow B T 2 (.slice A (j + 1) cap) (j + 1) (pkCells (ps.take (j + 1))) := by
  rw [pk_take ps j hj, pkCells_append, pkCells_one]; exact h

set_option maxRecDepth 100000 in
set_option maxHeartbeats 8000000 in
theorem filtered_core (k : Nat) (f : Asks) (any : Bool) (a : Option Addr) (cap : Nat) (ps : List Pk) (part : ByteArray) (w : World) (h : IsPks w a ps) (hfi : Fine ps) (hk : k = 1 ∧ f = preA ∨ k = 2 ∧ f = sufA ∨ k = 3 ∧ f = conA ∨ k = 4 ∧ f = fuzA) (hp : IsAscii part) (hz : part.size ≤ 60) :
    Calls Tryd.prog 7 #[.int .i64 (k : Nat), .slice a ps.length cap, .string part, .bool any] w (PksPost (filt f any part ps) w) := by
  have HH := Go.Lib.hid h
  have HFI := Go.Lib.hid hfi
  have HPA := Go.Lib.hid hp
  have HK := Go.Lib.hid hk
  have hn40 := hfi.1
  obtain ⟨ib, hib, hz0, hz1, hz2⟩ := info_parts (show (Tryd.prog.info? 34).map (fun i => (i.zero, i.size, i.bytes)) = some (some (.agg #[.string ⟨#[]⟩, .string ⟨#[]⟩]), 2, 32) by kernel_rfl)
  obtain ⟨ic, hic, hy0, hy1, hy2⟩ := info_parts (show (Tryd.prog.info? 29).map (fun i => (i.zero, i.size, i.bytes)) = some (some (.agg #[.string ⟨#[]⟩, .string ⟨#[]⟩]), 2, 32) by kernel_rfl)
  obtain ⟨n, hn⟩ : ∃ n, n = ps.length := ⟨_, rfl⟩
  have Hn := Go.Lib.hid hn
  rw [← hn] at hn40 ⊢
  clear h hfi hp hk hn
  go_enter Tryd.func7, Tryd.ntmps7
  go_wp2_with fail
  go_loopw [9, 18] (fun v' i wr => ∃ (j : Nat) (A : Option Addr) (c : Nat), j ≤ n ∧ i = .int .i64 j ∧ v' = .slice A j c ∧ wr.ownsRow w.heap.size 34 2 (.slice A j c) j (pkCells (ps.take j)) ∧ Below w.heap.size w wr) (fun _ i _ => n - (intOf i).toNat)
  case atStart => exact ⟨0, none, 0, Nat.zero_le _, rfl, rfl, World.ownsRow_nil _ _ _ _, Below.refl _ _⟩
  case round =>
    obtain ⟨j, A, c, hj, rfl, rfl, hown, hb⟩ := hrel
    have hzr := hb.size
    by_cases hlt : j < n
    · rcases HH.out with e | ⟨b, off, rfl, hbl, hc⟩
      · have := Hn.out; rw [e] at this; simp at this; omega
      have hjl : j < ps.length := by rw [← Hn.out]; exact hlt
      obtain ⟨d1, d2⟩ := hc j hjl
      have HSN : Hid (∀ (wx : World) (g : Nat) (cp : Nat), wx.ownsRow w.heap.size 34 2 (.slice (some ⟨g, 0, none⟩) (j + 1) cp) (j + 1) (pkCells (ps.take j) ++ (pkAt ps j).cells) → wx.ownsRow w.heap.size 34 2 (.slice (some ⟨g, 0, none⟩) (j + 1) cp) (j + 1) (pkCells (ps.take (j + 1)))) := fun wx g cp h => own_take hjl h
      generalize pkAt ps j = p at d1 d2 HSN
      have g1 : wr.cell? ⟨b, off + j * 2, none⟩ = some (.string p.t) := (hb.cell (p := ⟨b, off + j * 2, none⟩) hbl).trans d1
      have g2 : wr.cell? ⟨b, off + j * 2 + 1, none⟩ = some (.string p.d) := (hb.cell (p := ⟨b, off + j * 2 + 1, none⟩) hbl).trans d2
      have HO := Go.Lib.hid hown
      have HB := Go.Lib.hid hb
      have hj0 : (0 : Int) ≤ j := by omega
      have hj1 : (j : Int) < n := by omega
      clear hc d1 d2 hown hb
      go_wp2_with (at_builtin; refine wpList_append_lies _ rfl (.tmp 22) (.tmp 28) 33 rfl w.heap.size 34 ib (.agg #[.string ⟨#[]⟩, .string ⟨#[]⟩]) 2 32 Tryd.underlying33 hib hz0 hz1 hz2 rfl (by decide) _ _ _ rfl ((HO.out.alloc _).alloc _) ⟨wr.heap.size + 1, 0, none⟩ 1 1 p.cells rfl rfl ?c0 (pk_one _) (by decide) ?c1 ?c2 ?c3 _ rfl ?_)
      case c0 => exact by simpa using news_pk (wr.alloc (.cells #[.string p.t, .string p.d] 29)) p 34
      case c1 => unfold maxLen; omega
      case c2 => omega
      case c3 => simp; omega
      intro g cp w4 hown4 hgrow4 _ _
      have HB4 : Hid (Below w.heap.size w w4) := ((HB.out.alloc hzr _).alloc (by simp; omega) _).grown hgrow4 (by simp; omega) (fun k hk => (HO.out.lt k hk).1)
      have HO4 := Go.Lib.hid (HSN.out w4 g cp hown4)
      clear hown4 hgrow4
      go_wp2_with fail
      go_roundw
      case rel => exact ⟨j + 1, some ⟨g, 0, none⟩, cp, by omega, by go_num, rfl, HO4.out, HB4.out⟩
      case measure => simp [intOf]; omega
    · have hj1 : ¬ (j : Int) < n := by omega
      obtain rfl : j = n := by omega
      have e : ps.take j = ps := List.take_of_length_le (by have := Hn.out; omega)
      rw [e] at hown
      have HP := Go.Lib.hid (pks_of_owns hown).2
      have HB := Go.Lib.hid hb
      clear hown e hb
      rw [Hn.out]
      obtain ⟨R, hR⟩ : ∃ R, R = filt f any part ps := ⟨_, rfl⟩
      have hRF : R.length ≤ 40 := by rw [hR]; exact (filt_fine HFI.out).1
      rw [← hR]
      have HR := Go.Lib.hid hR
      obtain ⟨m, hm⟩ : ∃ m, m = R.length := ⟨_, rfl⟩
      have Hm := Go.Lib.hid hm
      rw [← hm] at hRF
      clear hR hm
      obtain ⟨wo, rfl⟩ : ∃ x, x = wr := ⟨_, rfl⟩
      have HC : Hid ((k = 1 ∨ k = 2 ∨ k = 3 ∨ k = 4) ∧ ∀ (e : Ending) (w' : World), True) := ⟨by rcases HK.out with h | h | h | h <;> simp [h], fun _ _ => trivial⟩
      clear HC
      rcases HK.out with ⟨rfl, rfl⟩ | ⟨rfl, rfl⟩ | ⟨rfl, rfl⟩ | ⟨rfl, rfl⟩
      · go_wp2_with fail
        refine (filtered_by_1 any A c ps part wo HP.out HFI.out HPA.out hz).mono ?_
        rintro e w1 ⟨B, cB, rfl, hp1, hb1⟩
        rw [← HR.out, ← Hm.out]
        rw [← HR.out] at hp1
        have HP1 := Go.Lib.hid hp1
        have HB1 : Hid (Below w.heap.size w w1) := HB.out.trans (hb1.mono hzr)
        have hzr1 := HB1.out.size
        clear hp1 hb1
        go_wp2_with fail
        go_loopw [13, 58] (fun v' i wq => ∃ (q : Nat) (D : Option Addr) (cD : Nat), q ≤ m ∧ i = .int .i64 q ∧ v' = .slice D q cD ∧ wq.ownsRow w1.heap.size 29 2 (.slice D q cD) q (pkCells (R.take q)) ∧ Below w1.heap.size w1 wq) (fun _ i _ => m - (intOf i).toNat)
        case atStart => exact ⟨0, none, 0, Nat.zero_le _, rfl, rfl, World.ownsRow_nil _ _ _ _, Below.refl _ _⟩
        case round =>
          obtain ⟨q, D, cD, hq, rfl, rfl, hown, hb⟩ := hrel
          have hzq := hb.size
          by_cases hlt : q < m
          · rcases HP1.out with e | ⟨b, off, rfl, hbl, hc⟩
            · have := Hm.out; rw [e] at this; simp at this; omega
            have hql : q < R.length := by rw [← Hm.out]; exact hlt
            obtain ⟨d1, d2⟩ := hc q hql
            have HSN : Hid (∀ (wx : World) (g : Nat) (cp : Nat), wx.ownsRow w1.heap.size 29 2 (.slice (some ⟨g, 0, none⟩) (q + 1) cp) (q + 1) (pkCells (R.take q) ++ (pkAt R q).cells) → wx.ownsRow w1.heap.size 29 2 (.slice (some ⟨g, 0, none⟩) (q + 1) cp) (q + 1) (pkCells (R.take (q + 1)))) := fun wx g cp h => own_take hql h
            generalize pkAt R q = p at d1 d2 HSN
            have g1 := (hb.cell (p := ⟨b, off + q * 2, none⟩) hbl).trans d1
            have g2 := (hb.cell (p := ⟨b, off + q * 2 + 1, none⟩) hbl).trans d2
            have HO := Go.Lib.hid hown
            have HBQ := Go.Lib.hid hb
            have hj0 : (0 : Int) ≤ q := by omega
            have hj1 : (q : Int) < m := by omega
            clear hc d1 d2 hown hb
            go_wp2_with (at_builtin; refine wpList_append_lies _ rfl (.tmp 62) (.tmp 68) 22 rfl w1.heap.size 29 ic (.agg #[.string ⟨#[]⟩, .string ⟨#[]⟩]) 2 32 Tryd.underlying22 hic hy0 hy1 hy2 rfl (by decide) _ _ _ rfl ((HO.out.alloc _).alloc _) ⟨wr.heap.size + 1, 0, none⟩ 1 1 p.cells rfl rfl ?d0 (pk_one _) (by decide) ?d1 ?d2 ?d3 _ rfl ?_)
            case d0 => exact by simpa using news_pk (wr.alloc (.cells #[.string p.t, .string p.d] 34)) p 29
            case d1 => unfold maxLen; omega
            case d2 => omega
            case d3 => simp; omega
            intro g cp w4 hown4 hgrow4 _ _
            have HB4 : Hid (Below w1.heap.size w1 w4) := ((HBQ.out.alloc hzq _).alloc (by simp; omega) _).grown hgrow4 (by simp; omega) (fun k hk => (HO.out.lt k hk).1)
            have HO4 := Go.Lib.hid (HSN.out w4 g cp hown4)
            clear hown4 hgrow4
            go_wp2_with fail
            go_roundw
            case rel => exact ⟨q + 1, some ⟨g, 0, none⟩, cp, by omega, by go_num, rfl, HO4.out, HB4.out⟩
            case measure => simp [intOf]; omega
          · have hj1 : ¬ (q : Int) < m := by omega
            obtain rfl : q = m := by omega
            have e : R.take q = R := List.take_of_length_le (by have := Hm.out; omega)
            rw [e] at hown
            have HPQ := Go.Lib.hid (pks_of_owns hown).2
            have HBQ : Hid (Below w.heap.size w wr) := HB1.out.trans (hb.mono hzr1)
            clear hown e hb
            go_wp2_with fail
            go_returns
            exact ⟨D, cD, by rw [← HR.out, ← Hm.out]; rfl, by rw [← HR.out]; exact HPQ.out, HBQ.out⟩
      · go_wp2_with fail
        refine (filtered_by_2 any A c ps part wo HP.out HFI.out HPA.out hz).mono ?_
        rintro e w1 ⟨B, cB, rfl, hp1, hb1⟩
        rw [← HR.out, ← Hm.out]
        rw [← HR.out] at hp1
        have HP1 := Go.Lib.hid hp1
        have HB1 : Hid (Below w.heap.size w w1) := HB.out.trans (hb1.mono hzr)
        have hzr1 := HB1.out.size
        clear hp1 hb1
        go_wp2_with fail
        go_loopw [13, 58] (fun v' i wq => ∃ (q : Nat) (D : Option Addr) (cD : Nat), q ≤ m ∧ i = .int .i64 q ∧ v' = .slice D q cD ∧ wq.ownsRow w1.heap.size 29 2 (.slice D q cD) q (pkCells (R.take q)) ∧ Below w1.heap.size w1 wq) (fun _ i _ => m - (intOf i).toNat)
        case atStart => exact ⟨0, none, 0, Nat.zero_le _, rfl, rfl, World.ownsRow_nil _ _ _ _, Below.refl _ _⟩
        case round =>
          obtain ⟨q, D, cD, hq, rfl, rfl, hown, hb⟩ := hrel
          have hzq := hb.size
          by_cases hlt : q < m
          · rcases HP1.out with e | ⟨b, off, rfl, hbl, hc⟩
            · have := Hm.out; rw [e] at this; simp at this; omega
            have hql : q < R.length := by rw [← Hm.out]; exact hlt
            obtain ⟨d1, d2⟩ := hc q hql
            have HSN : Hid (∀ (wx : World) (g : Nat) (cp : Nat), wx.ownsRow w1.heap.size 29 2 (.slice (some ⟨g, 0, none⟩) (q + 1) cp) (q + 1) (pkCells (R.take q) ++ (pkAt R q).cells) → wx.ownsRow w1.heap.size 29 2 (.slice (some ⟨g, 0, none⟩) (q + 1) cp) (q + 1) (pkCells (R.take (q + 1)))) := fun wx g cp h => own_take hql h
            generalize pkAt R q = p at d1 d2 HSN
            have g1 := (hb.cell (p := ⟨b, off + q * 2, none⟩) hbl).trans d1
            have g2 := (hb.cell (p := ⟨b, off + q * 2 + 1, none⟩) hbl).trans d2
            have HO := Go.Lib.hid hown
            have HBQ := Go.Lib.hid hb
            have hj0 : (0 : Int) ≤ q := by omega
            have hj1 : (q : Int) < m := by omega
            clear hc d1 d2 hown hb
            go_wp2_with (at_builtin; refine wpList_append_lies _ rfl (.tmp 62) (.tmp 68) 22 rfl w1.heap.size 29 ic (.agg #[.string ⟨#[]⟩, .string ⟨#[]⟩]) 2 32 Tryd.underlying22 hic hy0 hy1 hy2 rfl (by decide) _ _ _ rfl ((HO.out.alloc _).alloc _) ⟨wr.heap.size + 1, 0, none⟩ 1 1 p.cells rfl rfl ?d0 (pk_one _) (by decide) ?d1 ?d2 ?d3 _ rfl ?_)
            case d0 => exact by simpa using news_pk (wr.alloc (.cells #[.string p.t, .string p.d] 34)) p 29
            case d1 => unfold maxLen; omega
            case d2 => omega
            case d3 => simp; omega
            intro g cp w4 hown4 hgrow4 _ _
            have HB4 : Hid (Below w1.heap.size w1 w4) := ((HBQ.out.alloc hzq _).alloc (by simp; omega) _).grown hgrow4 (by simp; omega) (fun k hk => (HO.out.lt k hk).1)
            have HO4 := Go.Lib.hid (HSN.out w4 g cp hown4)
            clear hown4 hgrow4
            go_wp2_with fail
            go_roundw
            case rel => exact ⟨q + 1, some ⟨g, 0, none⟩, cp, by omega, by go_num, rfl, HO4.out, HB4.out⟩
            case measure => simp [intOf]; omega
          · have hj1 : ¬ (q : Int) < m := by omega
            obtain rfl : q = m := by omega
            have e : R.take q = R := List.take_of_length_le (by have := Hm.out; omega)
            rw [e] at hown
            have HPQ := Go.Lib.hid (pks_of_owns hown).2
            have HBQ : Hid (Below w.heap.size w wr) := HB1.out.trans (hb.mono hzr1)
            clear hown e hb
            go_wp2_with fail
            go_returns
            exact ⟨D, cD, by rw [← HR.out, ← Hm.out]; rfl, by rw [← HR.out]; exact HPQ.out, HBQ.out⟩
      · go_wp2_with fail
        refine (filtered_by_3 any A c ps part wo HP.out HFI.out HPA.out hz).mono ?_
        rintro e w1 ⟨B, cB, rfl, hp1, hb1⟩
        rw [← HR.out, ← Hm.out]
        rw [← HR.out] at hp1
        have HP1 := Go.Lib.hid hp1
        have HB1 : Hid (Below w.heap.size w w1) := HB.out.trans (hb1.mono hzr)
        have hzr1 := HB1.out.size
        clear hp1 hb1
        go_wp2_with fail
        go_loopw [13, 58] (fun v' i wq => ∃ (q : Nat) (D : Option Addr) (cD : Nat), q ≤ m ∧ i = .int .i64 q ∧ v' = .slice D q cD ∧ wq.ownsRow w1.heap.size 29 2 (.slice D q cD) q (pkCells (R.take q)) ∧ Below w1.heap.size w1 wq) (fun _ i _ => m - (intOf i).toNat)
        case atStart => exact ⟨0, none, 0, Nat.zero_le _, rfl, rfl, World.ownsRow_nil _ _ _ _, Below.refl _ _⟩
        case round =>
          obtain ⟨q, D, cD, hq, rfl, rfl, hown, hb⟩ := hrel
          have hzq := hb.size
          by_cases hlt : q < m
          · rcases HP1.out with e | ⟨b, off, rfl, hbl, hc⟩
            · have := Hm.out; rw [e] at this; simp at this; omega
            have hql : q < R.length := by rw [← Hm.out]; exact hlt
            obtain ⟨d1, d2⟩ := hc q hql
            have HSN : Hid (∀ (wx : World) (g : Nat) (cp : Nat), wx.ownsRow w1.heap.size 29 2 (.slice (some ⟨g, 0, none⟩) (q + 1) cp) (q + 1) (pkCells (R.take q) ++ (pkAt R q).cells) → wx.ownsRow w1.heap.size 29 2 (.slice (some ⟨g, 0, none⟩) (q + 1) cp) (q + 1) (pkCells (R.take (q + 1)))) := fun wx g cp h => own_take hql h
            generalize pkAt R q = p at d1 d2 HSN
            have g1 := (hb.cell (p := ⟨b, off + q * 2, none⟩) hbl).trans d1
            have g2 := (hb.cell (p := ⟨b, off + q * 2 + 1, none⟩) hbl).trans d2
            have HO := Go.Lib.hid hown
            have HBQ := Go.Lib.hid hb
            have hj0 : (0 : Int) ≤ q := by omega
            have hj1 : (q : Int) < m := by omega
            clear hc d1 d2 hown hb
            go_wp2_with (at_builtin; refine wpList_append_lies _ rfl (.tmp 62) (.tmp 68) 22 rfl w1.heap.size 29 ic (.agg #[.string ⟨#[]⟩, .string ⟨#[]⟩]) 2 32 Tryd.underlying22 hic hy0 hy1 hy2 rfl (by decide) _ _ _ rfl ((HO.out.alloc _).alloc _) ⟨wr.heap.size + 1, 0, none⟩ 1 1 p.cells rfl rfl ?d0 (pk_one _) (by decide) ?d1 ?d2 ?d3 _ rfl ?_)
            case d0 => exact by simpa using news_pk (wr.alloc (.cells #[.string p.t, .string p.d] 34)) p 29
            case d1 => unfold maxLen; omega
            case d2 => omega
            case d3 => simp; omega
            intro g cp w4 hown4 hgrow4 _ _
            have HB4 : Hid (Below w1.heap.size w1 w4) := ((HBQ.out.alloc hzq _).alloc (by simp; omega) _).grown hgrow4 (by simp; omega) (fun k hk => (HO.out.lt k hk).1)
            have HO4 := Go.Lib.hid (HSN.out w4 g cp hown4)
            clear hown4 hgrow4
            go_wp2_with fail
            go_roundw
            case rel => exact ⟨q + 1, some ⟨g, 0, none⟩, cp, by omega, by go_num, rfl, HO4.out, HB4.out⟩
            case measure => simp [intOf]; omega
          · have hj1 : ¬ (q : Int) < m := by omega
            obtain rfl : q = m := by omega
            have e : R.take q = R := List.take_of_length_le (by have := Hm.out; omega)
            rw [e] at hown
            have HPQ := Go.Lib.hid (pks_of_owns hown).2
            have HBQ : Hid (Below w.heap.size w wr) := HB1.out.trans (hb.mono hzr1)
            clear hown e hb
            go_wp2_with fail
            go_returns
            exact ⟨D, cD, by rw [← HR.out, ← Hm.out]; rfl, by rw [← HR.out]; exact HPQ.out, HBQ.out⟩
      · go_wp2_with fail
        refine (filtered_by_4 any A c ps part wo HP.out HFI.out HPA.out hz).mono ?_
        rintro e w1 ⟨B, cB, rfl, hp1, hb1⟩
        rw [← HR.out, ← Hm.out]
        rw [← HR.out] at hp1
        have HP1 := Go.Lib.hid hp1
        have HB1 : Hid (Below w.heap.size w w1) := HB.out.trans (hb1.mono hzr)
        have hzr1 := HB1.out.size
        clear hp1 hb1
        go_wp2_with fail
        go_loopw [13, 58] (fun v' i wq => ∃ (q : Nat) (D : Option Addr) (cD : Nat), q ≤ m ∧ i = .int .i64 q ∧ v' = .slice D q cD ∧ wq.ownsRow w1.heap.size 29 2 (.slice D q cD) q (pkCells (R.take q)) ∧ Below w1.heap.size w1 wq) (fun _ i _ => m - (intOf i).toNat)
        case atStart => exact ⟨0, none, 0, Nat.zero_le _, rfl, rfl, World.ownsRow_nil _ _ _ _, Below.refl _ _⟩
        case round =>
          obtain ⟨q, D, cD, hq, rfl, rfl, hown, hb⟩ := hrel
          have hzq := hb.size
          by_cases hlt : q < m
          · rcases HP1.out with e | ⟨b, off, rfl, hbl, hc⟩
            · have := Hm.out; rw [e] at this; simp at this; omega
            have hql : q < R.length := by rw [← Hm.out]; exact hlt
            obtain ⟨d1, d2⟩ := hc q hql
            have HSN : Hid (∀ (wx : World) (g : Nat) (cp : Nat), wx.ownsRow w1.heap.size 29 2 (.slice (some ⟨g, 0, none⟩) (q + 1) cp) (q + 1) (pkCells (R.take q) ++ (pkAt R q).cells) → wx.ownsRow w1.heap.size 29 2 (.slice (some ⟨g, 0, none⟩) (q + 1) cp) (q + 1) (pkCells (R.take (q + 1)))) := fun wx g cp h => own_take hql h
            generalize pkAt R q = p at d1 d2 HSN
            have g1 := (hb.cell (p := ⟨b, off + q * 2, none⟩) hbl).trans d1
            have g2 := (hb.cell (p := ⟨b, off + q * 2 + 1, none⟩) hbl).trans d2
            have HO := Go.Lib.hid hown
            have HBQ := Go.Lib.hid hb
            have hj0 : (0 : Int) ≤ q := by omega
            have hj1 : (q : Int) < m := by omega
            clear hc d1 d2 hown hb
            go_wp2_with (at_builtin; refine wpList_append_lies _ rfl (.tmp 62) (.tmp 68) 22 rfl w1.heap.size 29 ic (.agg #[.string ⟨#[]⟩, .string ⟨#[]⟩]) 2 32 Tryd.underlying22 hic hy0 hy1 hy2 rfl (by decide) _ _ _ rfl ((HO.out.alloc _).alloc _) ⟨wr.heap.size + 1, 0, none⟩ 1 1 p.cells rfl rfl ?d0 (pk_one _) (by decide) ?d1 ?d2 ?d3 _ rfl ?_)
            case d0 => exact by simpa using news_pk (wr.alloc (.cells #[.string p.t, .string p.d] 34)) p 29
            case d1 => unfold maxLen; omega
            case d2 => omega
            case d3 => simp; omega
            intro g cp w4 hown4 hgrow4 _ _
            have HB4 : Hid (Below w1.heap.size w1 w4) := ((HBQ.out.alloc hzq _).alloc (by simp; omega) _).grown hgrow4 (by simp; omega) (fun k hk => (HO.out.lt k hk).1)
            have HO4 := Go.Lib.hid (HSN.out w4 g cp hown4)
            clear hown4 hgrow4
            go_wp2_with fail
            go_roundw
            case rel => exact ⟨q + 1, some ⟨g, 0, none⟩, cp, by omega, by go_num, rfl, HO4.out, HB4.out⟩
            case measure => simp [intOf]; omega
          · have hj1 : ¬ (q : Int) < m := by omega
            obtain rfl : q = m := by omega
            have e : R.take q = R := List.take_of_length_le (by have := Hm.out; omega)
            rw [e] at hown
            have HPQ := Go.Lib.hid (pks_of_owns hown).2
            have HBQ : Hid (Below w.heap.size w wr) := HB1.out.trans (hb.mono hzr1)
            clear hown e hb
            go_wp2_with fail
            go_returns
            exact ⟨D, cD, by rw [← HR.out, ← Hm.out]; rfl, by rw [← HR.out]; exact HPQ.out, HBQ.out⟩
end Go.Proofs.YtldlgipailfbnaaDoor
