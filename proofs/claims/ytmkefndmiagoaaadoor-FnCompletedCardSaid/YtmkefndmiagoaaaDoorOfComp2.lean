/- impl.Completed. -/
import Derived.Test.YtmkefndmiagoaaaDoorOfComp
namespace Go.Proofs.YtmkefndmiagoaaaDoor
open Go.RowKit
set_option linter.unusedVariables false
set_option linter.unusedSimpArgs false

def CompPost (L : List ByteArray) (m : Nat) (w : World) (e : Ending) (w' : World) : Prop :=
  ∃ A c off, e = .returned (.tuple #[.slice A L.length c, .int .i64 (off : Nat), .bool true]) ∧ (L ≠ [] → off = m) ∧ IsStrs w' A L ∧ Below w.heap.size w w'

theorem conv_row (W : World) (g o c : Nat) (t : ByteArray) (ht : IsAscii t) (hr : RuneRow W (some ⟨g, o, none⟩) (runes t)) (hc : t.size ≤ c) :
    (convert 51 9 (.slice (some ⟨g, o, none⟩) t.size c)).run Tryd.prog W = .ok (.string t) W := by
  have hl := runes_ascii_length t ht
  have := run_convert_runes (P := Tryd.prog) W 51 9 21 ⟨g, o, none⟩ t.size c (runes t) (by omega) Tryd.underlying51 Tryd.underlying21 Tryd.underlying9 (fun j hj => by
    obtain ⟨g', o', e', hcl⟩ := hr j (by omega)
    cases e'
    have e : (⟨g, o, none⟩ : Addr).add j = ⟨g, o + j, none⟩ := by
      unfold Addr.add
      by_cases e : j = 0
      · rw [if_pos e, e]; rfl
      · rw [if_neg e]
    rw [e]
    exact hcl)
  rwa [List.take_of_length_le (by omega), bytes_of_runes t ht] at this

theorem rows_cells {w : World} {base c9 : Nat} {A9 : Option Addr} {L : List ByteArray} {xs : List Value} (h : w.ownsRow base 51 1 (.slice A9 L.length c9) L.length xs) (hr : RowsO w L xs) :
    ∀ j, j < L.length → ∃ g9 g o c, A9 = some ⟨g9, 0, none⟩ ∧ w.cell? ⟨g9, j, none⟩ = some (.slice (some ⟨g, o, none⟩) (txt L j).size c) ∧ (txt L j).size ≤ c ∧ RuneRow w (some ⟨g, o, none⟩) (runes (txt L j)) := fun j hj => by
  obtain ⟨g, o, c, h1, h2, h3, h4⟩ := hr.2 j hj
  rcases h.2 with ⟨e1, e2⟩ | ⟨g9, cap, cur, hv, hg, hh, hc, _, hcs, htk⟩
  · omega
  · cases hv
    refine ⟨g9, g, o, c, rfl, ?_, h2, h4⟩
    rw [World.cell?, hh]
    have := congrArg (·[j]?) htk
    simp only [h1] at this
    rw [List.getElem?_take_of_lt (by omega)] at this
    simpa using this

theorem KidsD.stand {w w' : World} {D : Nat → Prop} {A : Option Addr} {T : List (ByteArray × List ByteArray)} (h : KidsD w D A T) (hs : Stand w w' D) : KidsD w' D A T := by
  rcases h with h | ⟨b, o, ha, db, hb, hc⟩
  · exact .inl h
  · refine .inr ⟨b, o, ha, db, Nat.lt_of_lt_of_le hb hs.1, fun j t ht => ?_⟩
    obtain ⟨q, h1, h2⟩ := hc j t ht
    exact ⟨q, (World.cell?_of_block (w := w) (hs.2 b hb db)).trans h1, h2.stand hs fun _ _ h => h⟩

set_option maxRecDepth 100000 in
set_option maxHeartbeats 2000000 in
theorem completed_any (T : List (ByteArray × List ByteArray)) (A : Option Addr) (c : Nat) (x : ByteArray) (L : List ByteArray) (m : Nat) (w : World) (hw : WordsAt w A (flatW T)) (hc : (flatW T).length ≤ c) (hl : (flatW T).length ≤ 100)
    (hs : ∀ t ∈ T, IsSmall t.1 ∧ t.1.size ≤ 100) (hk : ∀ t ∈ T, t.2.length ≤ 8 ∧ ∀ k ∈ t.2, IsSmall k ∧ k.size ≤ 100) (hx : IsAscii x) (hxz : x.size ≤ 100) (hL : ∀ t ∈ L, IsAscii t) (hL8 : L.length ≤ 100)
    (hD : ∀ (W : World) (D : Nat → Prop) (A3 : Option Addr) (c3 : Nat), KidsD W D A3 T → DoesAt A3 T.length c3 x L m W) :
    Calls Tryd.prog 10 #[.slice A (flatW T).length c, .string x, .int .i64 (x.size : Nat)] w (CompPost L m w) := by
  obtain ⟨ib, hib, hz0, hz1, hz2⟩ := info_parts (show (Tryd.prog.info? 9).map (fun i => (i.zero, i.size, i.bytes)) = some (some (.string ⟨#[]⟩), 1, 16) by kernel_rfl)
  have hmf : ∀ (fn : Fn) (first cap : Array Value) (w : World), (Instr.makeFunc fn first cap).run Tryd.prog w = .ok (.func fn first cap) w := fun _ _ _ _ => rfl
  have eg : ∀ args w, (callFunc 20 args).run Tryd.prog w = .ok (.enter 20 args) w := fun _ _ => by kernel_rfl
  have HIT := Go.Lib.hid fun W h => items_any T A c W h hc hl hs hk
  have HW := Go.Lib.hid hw
  have HD := Go.Lib.hid hD
  have HL := Go.Lib.hid hL
  clear hw hs hk hD hL
  generalize (flatW T).length = n at HIT hc hl ⊢
  go_enter Tryd.func10, Tryd.ntmps10
  go_wp2_with fail
  have b1 : Below w.heap.size w (((w.alloc (.cells #[.string x] 9)).alloc (.cells #[.int .i64 (x.size : Nat)] 3)).alloc (.cells #[.int .i64 0] 3)) := (((Below.refl _ _).alloc (Nat.le_refl _) _).alloc (by simp) _).alloc (by simp; omega) _
  refine (HIT.out _ (HW.out.below b1)).mono ?_
  rintro e w2 ⟨A3, c3, rfl, hkids, b2⟩
  have HKD := Go.Lib.hid hkids
  have hz2' : w.heap.size + 3 ≤ w2.heap.size := by have := b2.size; simpa using this
  have e0 : w2.cell? ⟨w.heap.size, 0, none⟩ = some (.string x) := (b2.cell (p := ⟨w.heap.size, 0, none⟩) (by simp <;> omega)).trans (by simp [go_sem])
  have e1 : w2.cell? ⟨w.heap.size + 1, 0, none⟩ = some (.int .i64 (x.size : Nat)) := (b2.cell (p := ⟨w.heap.size + 1, 0, none⟩) (by simp <;> omega)).trans (by simp [go_sem])
  have e2 : w2.cell? ⟨w.heap.size + 2, 0, none⟩ = some (.int .i64 0) := (b2.cell (p := ⟨w.heap.size + 2, 0, none⟩) (by simp <;> omega)).trans (by simp [go_sem])
  have f2 : w2.frozen? ⟨w.heap.size + 2, 0, none⟩ = false := (b2.frozen (p := ⟨w.heap.size + 2, 0, none⟩) (by simp <;> omega)).trans (by simp [go_sem])
  have HB2 : Hid (Below w.heap.size w w2) := b1.trans (b2.mono (by simp <;> omega))
  clear b1 b2 hkids
  go_wp2_with fail
  obtain ⟨W, hWe⟩ : ∃ W, W = ((w2.alloc (.cells #[.slice A3 T.length c3] 42)).alloc (.cells #[.slice none 0 0] 45)) := ⟨_, rfl⟩
  have hWs : W.heap.size = w2.heap.size + 1 + 1 := by rw [hWe]; simp
  have hWb : Below w2.heap.size w2 W := by rw [hWe]; exact ((Below.refl _ _).alloc (Nat.le_refl _) _).alloc (by simp) _
  have k0 : W.cell? ⟨w2.heap.size, 0, none⟩ = some (.slice A3 T.length c3) := by rw [hWe]; simp [go_sem]
  have g0 : W.cell? ⟨w2.heap.size + 1, 0, none⟩ = some (.slice none 0 0) := by rw [hWe]; simp [go_sem]
  have gf : W.frozen? ⟨w2.heap.size + 1, 0, none⟩ = false := by rw [hWe]; simp [go_sem]
  rw [← hWe]
  clear hWe
  replace e0 := (hWb.cell (p := ⟨w.heap.size, 0, none⟩) (by dsimp only; omega)).trans e0
  replace e1 := (hWb.cell (p := ⟨w.heap.size + 1, 0, none⟩) (by dsimp only; omega)).trans e1
  replace e2 := (hWb.cell (p := ⟨w.heap.size + 2, 0, none⟩) (by dsimp only; omega)).trans e2
  replace f2 := (hWb.frozen (p := ⟨w.heap.size + 2, 0, none⟩) (by dsimp only; omega)).trans f2
  have bc : Below W.heap.size W (W.alloc (.cells #[.bool false] 4)) := (Below.refl _ _).alloc (Nat.le_refl _) _
  have hb2c : Below w2.heap.size w2 (W.alloc (.cells #[.bool false] 4)) := hWb.trans (bc.mono hWb.size)
  have hbWc : Below w.heap.size w (W.alloc (.cells #[.bool false] 4)) := HB2.out.trans (hb2c.mono HB2.out.size)
  have hcl := completed_cl w2.heap.size w.heap.size (w.heap.size + 1) (w2.heap.size + 1) (w.heap.size + 1 + 1) A3 T.length c3 x L m (W.alloc (.cells #[.bool false] 4)) hx hxz ((bc.cell (p := ⟨w2.heap.size, 0, none⟩) (by dsimp only; omega)).trans k0) ((bc.cell (p := ⟨w.heap.size, 0, none⟩) (by dsimp only; omega)).trans e0) ((bc.cell (p := ⟨w.heap.size + 1, 0, none⟩) (by dsimp only; omega)).trans e1)
    ((bc.cell (p := ⟨w2.heap.size + 1, 0, none⟩) (by dsimp only; omega)).trans g0) ((bc.frozen (p := ⟨w2.heap.size + 1, 0, none⟩) (by dsimp only; omega)).trans gf) ((bc.cell (p := ⟨w.heap.size + 2, 0, none⟩) (by dsimp only; omega)).trans e2) ((bc.frozen (p := ⟨w.heap.size + 2, 0, none⟩) (by dsimp only; omega)).trans f2) (by omega) (by omega) (by omega) (by omega) (HD.out _ _ A3 c3 (HKD.out.stand (.of hb2c _)))
  have HCL := Go.Lib.hid hcl
  clear hcl e0 e1 e2 f2 k0 g0 gf
  refine (caught_ret 20 _ W (fun w1 => CclPost (w2.heap.size + 1) (w.heap.size + 1 + 1) L m (W.alloc (.cells #[.bool false] 4)) w1) eg (HCL.out.mono ?_)).mono ?_
  · rintro e w3 ⟨rfl, hR⟩
    have hR2 := hR
    obtain ⟨v, off, xs, a1, a2, a3, a4, a5, a6, a7⟩ := hR2
    have hk := a7.rest W.heap.size (by simp) (by omega) (by omega)
    exact ⟨rfl, hR, (World.cell?_of_block (w := W.alloc (.cells #[.bool false] 4)) hk).trans (by simp [go_sem]), (World.frozen?_of_block (w := W.alloc (.cells #[.bool false] 4)) hk).trans (by simp [go_sem])⟩
  rintro e w4 ⟨rfl, w3, hR, rfl⟩
  obtain ⟨v, off, xs, a1, a2, a3, a4, a5, a6, a7⟩ := hR
  obtain ⟨A9, c9, rfl⟩ := row_shape a5
  have hk := a7.rest W.heap.size (by simp) (by omega) (by omega)
  have ok3 : w3.cell? ⟨W.heap.size, 0, none⟩ = some (.bool false) := (World.cell?_of_block (w := W.alloc (.cells #[.bool false] 4)) hk).trans (by simp [go_sem])
  have q0 := (World.cell?_setCell_other w3 ⟨W.heap.size, 0, none⟩ ⟨w2.heap.size + 1, 0, none⟩ (.bool true) (ne_addr (by omega))).trans a1
  have q1 := (World.cell?_setCell_other w3 ⟨W.heap.size, 0, none⟩ ⟨w.heap.size + 1 + 1, 0, none⟩ (.bool true) (ne_addr (by omega))).trans a2
  have qf := (World.frozen?_setCell w3 ⟨W.heap.size, 0, none⟩ ⟨w.heap.size + 1 + 1, 0, none⟩ (.bool true)).trans a3
  have a5' := ownsRow_setCell_below (a := ⟨W.heap.size, 0, none⟩) a5 (by show W.heap.size < _; simp) (.bool true)
  have a6' := a6.setO ok3 (fun z e => by cases e) (.bool true)
  have HCE := Go.Lib.hid (rows_cells a5' a6')
  have HB5 : Hid (Below w.heap.size w (w3.setCell ⟨W.heap.size, 0, none⟩ (.bool true))) := by
    have hs3 := a7.size
    have hsc := hbWc.size
    refine ⟨a7.os.trans hbWc.os, a7.tape.trans hbWc.tape, a7.output.trans hbWc.output, by simp [World.setCell]; omega, fun k hk => ?_⟩
    rw [Below.heap_setCell _ _ _ _ (by show k ≠ W.heap.size; omega)]
    exact (a7.rest k (by omega) (by omega) (by omega)).trans (hbWc.block k hk)
  have hsz5 : W.heap.size < (w3.setCell ⟨W.heap.size, 0, none⟩ (.bool true)).heap.size := by have := a7.size; simp [World.setCell] at this ⊢; omega
  have HOFF := Go.Lib.hid a4
  generalize w3.setCell ⟨W.heap.size, 0, none⟩ (.bool true) = w5 at q0 q1 qf HCE HB5 hsz5 ⊢
  clear a1 a2 a3 a4 a5 a6 a7 hk ok3 a5' a6' HCL hb2c hbWc bc hWb
  go_wp2_with fail
  go_loopw [6, 27] (fun tv i wr => ∃ (j : Nat) (v : Value), v = tv ∧ j ≤ L.length ∧ i = .int .i64 j ∧ Hid (Below w5.heap.size w5 wr) ∧ Hid (wr.ownsRow w5.heap.size 9 1 v (L.take j).length (strV (L.take j)))) (fun _ i _ => L.length - (intOf i).toNat)
  case atStart => exact ⟨0, _, rfl, Nat.zero_le _, rfl, Below.refl _ _, World.ownsRow_nil _ _ _ _⟩
  case round =>
    obtain ⟨j, v, rfl, hj, rfl, HB, HO⟩ := hrel
    by_cases hlt : j < L.length
    · obtain ⟨g9, g, o, c, rfl, hcl, hsc, hrr⟩ := HCE.out j hlt
      have hg9 := lt_of_cell hcl
      have d9 := (HB.out.cell (p := ⟨g9, j, none⟩) hg9).trans hcl
      have hcv := conv_row wr g o c (txt L j) (HL.out _ (txt_mem L j hlt)) (hrr.mono HB.out) hsc
      have HTK : Hid (L.take (j + 1) = L.take j ++ [txt L j]) := by rw [Hid, List.take_add_one]; simp [txt, hlt]
      have hTl : (L.take j).length = j := by rw [List.length_take]; omega
      rw [hTl] at HO
      generalize txt L j = t at hcl hsc hrr d9 hcv HTK
      have hj0 : (0 : Int) ≤ j := by omega
      have hj1 : (j : Int) < L.length := by omega
      have hbs := HB.out.size
      have hnews := news_any wr (.string t) 9
      clear hcl hrr
      obtain ⟨Z, hZ⟩ : ∃ Z, Z = strV (L.take j) := ⟨_, rfl⟩
      rw [← hZ] at HO
      have HZ := Go.Lib.hid hZ
      clear hZ
      go_wp2_with (at_builtin; refine wpList_append_own _ rfl _ _ 22 rfl w5.heap.size 9 ib (.string ⟨#[]⟩) 1 16 Tryd.underlying22 hib hz0 hz1 hz2 rfl (by decide) v j Z rfl (HO.out.alloc _) ⟨wr.heap.size, 0, none⟩ 1 1 [.string t] rfl rfl hnews (by simp [Value.oneCell']) ?c1 ?c2 ?c3 ?_)
      case c1 => unfold maxLen; omega
      case c2 => omega
      case c3 => simp; omega
      intro v2 w6 hown6 hgrow6 _
      have hlo := HO.out.lt
      have HB6 : Hid (Below w5.heap.size w5 w6) := (HB.out.alloc hbs _).grown hgrow6 (by simp; omega) (fun k hk => (hlo k hk).1)
      have HO6 : Hid (w6.ownsRow w5.heap.size 9 1 v2 (L.take (j + 1)).length (strV (L.take (j + 1)))) := by
        have e : strV (L.take (j + 1)) = Z ++ [.string t] := by rw [HTK.out, HZ.out]; simp [strV]
        have e2 : (L.take (j + 1)).length = j + 1 := by rw [List.length_take]; omega
        rw [Hid, e2, e]; exact hown6
      clear hown6 hgrow6 hlo hnews
      go_wp2_with fail
      go_roundw
      case rel => exact ⟨j + 1, v2, rfl, by omega, by go_num, HB6.out, HO6.out⟩
      case measure => simp [intOf]; omega
    · obtain rfl : j = L.length := by omega
      rw [List.take_length] at HO
      obtain ⟨A7, c7, rfl, hst⟩ := strs_own HO.out
      have HST := Go.Lib.hid hst
      have q1' := (HB.out.cell (p := ⟨w.heap.size + 1 + 1, 0, none⟩) (by dsimp only; omega)).trans q1
      have qf' := (HB.out.frozen (p := ⟨w.heap.size + 1 + 1, 0, none⟩) (by dsimp only; omega)).trans qf
      clear hst q1 qf q0
      go_wp2_with fail
      refine region_quiet_tail 3 (by kernel_rfl) (by kernel_rfl) ?_
      simp only [List.take_succ_cons, List.take_zero, List.drop_succ_cons, List.drop_zero]
      repeat (go_big_quiet_step (fail))
      refine wpQuiet_nil ?_
      intro _ hw'
      obtain ⟨nq, hw''⟩ := hw'
      subst hw''
      go_wp2_with fail
      have z1 : ((wr.drewN nq).setCell ⟨w.heap.size + 1 + 1, 0, none⟩ (.int .i64 (off : Nat))).cell? ⟨w.heap.size + 1 + 1, 0, none⟩ = some (.int .i64 (off : Nat)) := World.cell?_setCell_same' _ _ _ (by rw [show (wr.drewN nq).cell? ⟨w.heap.size + 1 + 1, 0, none⟩ = some (.int .i64 (off : Nat)) from q1']; rfl)
      have HBW : Below w.heap.size w wr := HB5.out.trans (HB.out.mono HB5.out.size)
      have HBZ : Hid (Below w.heap.size w ((wr.drewN nq).setCell ⟨w.heap.size + 1 + 1, 0, none⟩ (.int .i64 (off : Nat)))) := (below_drewN HBW nq).setCell (by dsimp only; omega) _
      have HSZ : Hid (IsStrs ((wr.drewN nq).setCell ⟨w.heap.size + 1 + 1, 0, none⟩ (.int .i64 (off : Nat))) A7 L) := by
        have h1 : (wr.drewN nq).ownsRow w5.heap.size 9 1 (.slice A7 L.length c7) L.length (strV L) := HO.out
        obtain ⟨A8, c8, hv8, hst8⟩ := strs_own (ownsRow_setCell_below (a := ⟨w.heap.size + 1 + 1, 0, none⟩) h1 (by dsimp only; omega) (.int .i64 (off : Nat)))
        cases hv8
        exact hst8
      exact bodyPost_ret (v := .tuple #[.slice A7 L.length c7, .int .i64 (off : Nat), .bool true]) (by simp [results, Tryd.results10, go_sem, z1]) rfl ⟨A7, c7, off, rfl, HOFF.out, HSZ.out, HBZ.out⟩
end Go.Proofs.YtmkefndmiagoaaaDoor
