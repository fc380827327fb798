/- filterSuggestions, the four filters, impl.Filtered. -/
import Derived.Test.YtldlgipailfbnaaDoorFilterKindsWalk
import Derived.OwnWalk
namespace Go.Proofs.YtldlgipailfbnaaDoor
open Go.RowKit
set_option linter.unusedVariables false
set_option linter.unusedSimpArgs false

theorem own_below {w w' : World} {base : Nat} {e : TypeId} {z : Nat} {v : Value} {n : Nat} {xs : List Value} (h : w.ownsRow base e z v n xs) (hb : Below w.heap.size w w') : w'.ownsRow base e z v n xs := by
  refine ⟨h.1, ?_⟩
  rcases h.2 with h0 | ⟨g, cap, cur, rfl, hg, hh, r⟩
  · exact .inl h0
  · exact .inr ⟨g, cap, cur, rfl, hg, by rw [hb.block g (Array.getElem?_eq_some_iff.1 hh).1]; exact hh, r⟩

/-- Picks that a call hands back. -/
def PksPost (ps : List Pk) (w : World) (e : Ending) (w' : World) : Prop := ∃ B cap, e = .returned (.slice B ps.length cap) ∧ IsPks w' B ps ∧ Below w.heap.size w w'

theorem filt_take (f : Asks) (any : Bool) (q : ByteArray) (ps : List Pk) (k : Nat) (h : k < ps.length) :
    (ps.take (k + 1)).filter (fun p => f (up any p.t) q) = (ps.take k).filter (fun p => f (up any p.t) q) ++ (if f (up any (pkAt ps k).t) q then [pkAt ps k] else []) := by
  rw [pk_take ps k h, List.filter_append]
  congr 1
  simp only [List.filter_cons, List.filter_nil]

set_option maxRecDepth 100000 in
set_option maxHeartbeats 4000000 in
theorem filter_core (fn : Nat) (f : Asks) (hf : AskOk fn f) (eg : ∀ args w, (callFunc fn args).run Tryd.prog w = .ok (.enter fn args) w) (any : Bool) (a : Option Addr) (cap : Nat) (ps : List Pk) (part : ByteArray) (w : World) (h : IsPks w a ps) (hfi : Fine ps) (hp : IsAscii part) (hz : part.size ≤ 60) :
    Calls Tryd.prog 15 #[.slice a ps.length cap, .string part, .bool any, .func (.func fn) #[] #[]] w (PksPost (filt f any part ps) w) := by
  have HH := Go.Lib.hid h
  have HF := Go.Lib.hid hf
  have HFI := Go.Lib.hid hfi
  have HPA := Go.Lib.hid hp
  have hn40 := hfi.1
  obtain ⟨ib, hib, hz0, hz1, hz2⟩ := info_parts (show (Tryd.prog.info? 34).map (fun i => (i.zero, i.size, i.bytes)) = some (some (.agg #[.string ⟨#[]⟩, .string ⟨#[]⟩]), 2, 32) by kernel_rfl)
  clear h hf hfi hp
  by_cases h0 : part.size = 0
  · have e : part = ⟨#[]⟩ := by
      apply ba_ext
      have : part.data.toList.length = 0 := by simpa using h0
      rw [List.length_eq_zero_iff.1 this]
    subst e
    rw [filt_none]
    clear h0
    go_enter Tryd.func15, Tryd.ntmps15
    go_wp2_with fail
    go_returns
    exact ⟨_, _, rfl, HH.out, Below.refl _ _⟩
  have HFL : Hid (filt f any part ps = ps.filter fun p => f (up any p.t) (up any part)) := by unfold filt; exact if_neg h0
  have e1 : part.toList.isEmpty = false := by
    rw [ByteArray.toList_eq]
    cases h : part.data.toList
    · exact absurd (by have := congrArg List.length h; simpa using this) h0
    · rfl
  obtain ⟨n, hn⟩ : ∃ n, n = ps.length := ⟨_, rfl⟩
  have Hn := Go.Lib.hid hn
  obtain ⟨R, hR⟩ : ∃ R, R = filt f any part ps := ⟨_, rfl⟩
  rw [← hR] at HFL ⊢
  rw [← hn] at hn40 ⊢
  clear hR hn h0
  cases any
  · go_enter Tryd.func15, Tryd.ntmps15
    have HB0 : Hid (Below w.heap.size w w) := Below.refl _ _
    have hz0' : w.heap.size ≤ w.heap.size := Nat.le_refl _
    have HQ : Hid (IsAscii (up false part)) := up_ascii false part HPA.out
    have hqz : part.size ≤ 60 := hz
    change Hid (R = ps.filter fun p => f (up false p.t) part) at HFL
    change Hid (IsAscii part) at HQ
    obtain ⟨q, hq⟩ : ∃ q, q = part := ⟨_, rfl⟩
    rw [← hq] at HFL HQ hqz e1 ⊢
    clear hq
    go_wp2_with (at_make; refine wpList_make_own _ rfl _ _ 33 rfl w.heap.size 34 ib _ 2 Tryd.underlying33 hib hz0 hz1 .i64 .i64 (n : Int) n rfl rfl rfl ?b2 ?b3 ?b4 ?_)
    case b2 => rw [hz2]; omega
    case b3 => unfold maxLen; omega
    case b4 => omega
    intro w1 hown1 hgrow1
    have HB1 : Hid (Below w.heap.size w w1) := HB0.out.grown hgrow1 hz0' (fun k hk => by cases hk)
    have hz1' := HB1.out.size
    clear hgrow1
    go_wp2_with fail
    go_loopw [9, 23] (fun v' i wr => ∃ (j : Nat) (A : Option Addr) (c : Nat) (acc : List Pk), j ≤ n ∧ acc.length ≤ j ∧ i = .int .i64 j ∧ v' = .slice A acc.length c ∧ wr.ownsRow w.heap.size 34 2 (.slice A acc.length c) acc.length (pkCells acc) ∧ Below w.heap.size w wr ∧ Hid (acc = (ps.take j).filter fun p => f (up false p.t) q)) (fun _ i _ => n - (intOf i).toNat)
    case atStart => exact ⟨0, _, n, [], Nat.zero_le _, Nat.le_refl _, rfl, rfl, hown1, HB1.out, rfl⟩
    case round =>
      obtain ⟨j, A, c, acc, hj, hacc, rfl, rfl, hown, hb, HC⟩ := hrel
      have hzr := hb.size
      by_cases hlt : j < n
      · rcases HH.out with e | ⟨b, off, rfl, hbl, hc⟩
        · have := Hn.out; rw [e] at this; simp at this; omega
        have hjl : j < ps.length := by rw [← Hn.out]; exact hlt
        obtain ⟨d1, d2⟩ := hc j hjl
        have hasc := (HFI.out.2 _ (pkAt_mem ps j hjl))
        have HT := Go.Lib.hid (filt_take f false q ps j hjl)
        generalize pkAt ps j = p at d1 d2 hasc HT
        have HASC := Go.Lib.hid hasc.1
        have hps := hasc.2
        have HD1 : Hid (∀ w', Below w.heap.size w w' → w'.cell? ⟨b, off + j * 2, none⟩ = some (.string p.t)) := fun w' h => (h.cell (p := ⟨b, off + j * 2, none⟩) hbl).trans d1
        have HD2 : Hid (∀ w', Below w.heap.size w w' → w'.cell? ⟨b, off + j * 2 + 1, none⟩ = some (.string p.d)) := fun w' h => (h.cell (p := ⟨b, off + j * 2 + 1, none⟩) hbl).trans d2
        have g1 := HD1.out wr hb
        have HO := Go.Lib.hid hown
        have HB := Go.Lib.hid hb
        have hj0 : (0 : Int) ≤ j := by omega
        have hj1 : (j : Int) < n := by omega
        clear hc d1 d2 hasc hown hb
        go_wp2_with fail
        refine (HF.out p.t q _ HASC.out HQ.out hps hqz).mono ?_
        rintro e w3 ⟨rfl, b3⟩
        have HB3 : Hid (Below w.heap.size w w3) := HB.out.trans (b3.mono hzr)
        have HO3 := Go.Lib.hid (own_below HO.out b3)
        have hzr3 : w.heap.size ≤ w3.heap.size := by have := b3.size; omega
        clear b3
        change Hid (_ = _ ++ if f p.t q = true then [p] else []) at HT
        generalize f p.t q = r at HT
        cases r
        · go_wp2_with fail
          go_roundw
          case rel => exact ⟨j + 1, A, c, acc, by omega, by omega, by go_num, rfl, HO3.out, HB3.out, by rw [Hid, HT.out, ← HC.out]; simp⟩
          case measure => simp [intOf]; omega
        · have g2 := HD1.out w3 HB3.out
          have g3 := HD2.out w3 HB3.out
          go_wp2_with (at_builtin; refine wpList_append_lies _ rfl _ _ 33 rfl w.heap.size 34 ib (.agg #[.string ⟨#[]⟩, .string ⟨#[]⟩]) 2 32 Tryd.underlying33 hib hz0 hz1 hz2 rfl (by decide) _ _ _ rfl (HO3.out.alloc _) ⟨w3.heap.size, 0, none⟩ 1 1 p.cells rfl rfl (news_pk w3 p _) (pk_one _) (by decide) ?c1 ?c2 ?c3 _ rfl ?_)
          case c1 => unfold maxLen; omega
          case c2 => omega
          case c3 => simp; omega
          intro g cp w4 hown4 hgrow4 _ _
          have HB4 : Hid (Below w.heap.size w w4) := (HB3.out.alloc hzr3 _).grown hgrow4 (by simp; omega) (fun k hk => (HO3.out.lt k hk).1)
          have HO4 : Hid (w4.ownsRow w.heap.size 34 2 (.slice (some ⟨g, 0, none⟩) (acc ++ [p]).length cp) (acc ++ [p]).length (pkCells (acc ++ [p]))) := by
            rw [pkCells_append, pkCells_one, List.length_append]; exact hown4
          clear hown4 hgrow4
          go_wp2_with fail
          go_roundw
          case rel => exact ⟨j + 1, some ⟨g, 0, none⟩, cp, acc ++ [p], by omega, by simp; omega, by go_num, by simp, HO4.out, HB4.out, by rw [Hid, HT.out, ← HC.out]; simp⟩
          case measure => simp [intOf]; omega
      · have hj1 : ¬ (j : Int) < n := by omega
        have e : acc = R := by rw [HC.out, HFL.out, List.take_of_length_le (by have := Hn.out; omega)]
        have HP := Go.Lib.hid (pks_of_owns hown).2
        have HE := Go.Lib.hid e
        have HB := Go.Lib.hid hb
        clear hown e hb
        go_wp2_with fail
        go_returns
        exact ⟨A, c, by rw [← HE.out]; rfl, by rw [← HE.out]; exact HP.out, HB.out⟩
  · go_enter Tryd.func15, Tryd.ntmps15
    go_wp2_with fail
    refine (upper_any part _ HPA.out hz).mono ?_
    rintro e w0 ⟨rfl, b0⟩
    have HB0 := Go.Lib.hid b0
    have hz0' := b0.size
    have HQ := Go.Lib.hid (up_ascii true part HPA.out)
    have hqz : (up true part).size ≤ 60 := by rw [up_size]; exact hz
    clear b0
    generalize up true part = q at HFL HQ hqz
    go_wp2_with (at_make; refine wpList_make_own _ rfl _ _ 33 rfl w.heap.size 34 ib _ 2 Tryd.underlying33 hib hz0 hz1 .i64 .i64 (n : Int) n rfl rfl rfl ?b2 ?b3 ?b4 ?_)
    case b2 => rw [hz2]; omega
    case b3 => unfold maxLen; omega
    case b4 => omega
    intro w1 hown1 hgrow1
    have HB1 : Hid (Below w.heap.size w w1) := HB0.out.grown hgrow1 hz0' (fun k hk => by cases hk)
    have hz1' := HB1.out.size
    clear hgrow1
    go_wp2_with fail
    go_loopw [9, 23] (fun v' i wr => ∃ (j : Nat) (A : Option Addr) (c : Nat) (acc : List Pk), j ≤ n ∧ acc.length ≤ j ∧ i = .int .i64 j ∧ v' = .slice A acc.length c ∧ wr.ownsRow w.heap.size 34 2 (.slice A acc.length c) acc.length (pkCells acc) ∧ Below w.heap.size w wr ∧ Hid (acc = (ps.take j).filter fun p => f (up true p.t) q)) (fun _ i _ => n - (intOf i).toNat)
    case atStart => exact ⟨0, _, n, [], Nat.zero_le _, Nat.le_refl _, rfl, rfl, hown1, HB1.out, rfl⟩
    case round =>
      obtain ⟨j, A, c, acc, hj, hacc, rfl, rfl, hown, hb, HC⟩ := hrel
      have hzr := hb.size
      by_cases hlt : j < n
      · rcases HH.out with e | ⟨b, off, rfl, hbl, hc⟩
        · have := Hn.out; rw [e] at this; simp at this; omega
        have hjl : j < ps.length := by rw [← Hn.out]; exact hlt
        obtain ⟨d1, d2⟩ := hc j hjl
        have hasc := (HFI.out.2 _ (pkAt_mem ps j hjl))
        have HT := Go.Lib.hid (filt_take f true q ps j hjl)
        generalize pkAt ps j = p at d1 d2 hasc HT
        have HASC := Go.Lib.hid hasc.1
        have hps := hasc.2
        have HD1 : Hid (∀ w', Below w.heap.size w w' → w'.cell? ⟨b, off + j * 2, none⟩ = some (.string p.t)) := fun w' h => (h.cell (p := ⟨b, off + j * 2, none⟩) hbl).trans d1
        have HD2 : Hid (∀ w', Below w.heap.size w w' → w'.cell? ⟨b, off + j * 2 + 1, none⟩ = some (.string p.d)) := fun w' h => (h.cell (p := ⟨b, off + j * 2 + 1, none⟩) hbl).trans d2
        have g1 := HD1.out wr hb
        have HO := Go.Lib.hid hown
        have HB := Go.Lib.hid hb
        have hj0 : (0 : Int) ≤ j := by omega
        have hj1 : (j : Int) < n := by omega
        clear hc d1 d2 hasc hown hb
        go_wp2_with fail
        refine (upper_any p.t _ HASC.out hps).mono ?_
        rintro e w2 ⟨rfl, b2⟩
        have HB2 : Hid (Below w.heap.size w w2) := HB.out.trans (b2.mono hzr)
        have HO2 := Go.Lib.hid (own_below HO.out b2)
        have hzr2 := b2.size
        clear b2
        have HU := Go.Lib.hid (up_ascii true p.t HASC.out)
        have huz : (up true p.t).size ≤ 60 := by rw [up_size]; exact hps
        generalize up true p.t = u at HT HU huz
        go_wp2_with fail
        refine (HF.out u q _ HU.out HQ.out huz hqz).mono ?_
        rintro e w3 ⟨rfl, b3⟩
        have HB3 : Hid (Below w.heap.size w w3) := HB2.out.trans (b3.mono (by omega))
        have HO3 := Go.Lib.hid (own_below HO2.out b3)
        have hzr3 : w.heap.size ≤ w3.heap.size := by have := b3.size; omega
        clear b3
        generalize f u q = r at HT
        cases r
        · go_wp2_with fail
          go_roundw
          case rel => exact ⟨j + 1, A, c, acc, by omega, by omega, by go_num, rfl, HO3.out, HB3.out, by rw [Hid, HT.out, ← HC.out]; simp⟩
          case measure => simp [intOf]; omega
        · have g2 := HD1.out w3 HB3.out
          have g3 := HD2.out w3 HB3.out
          go_wp2_with (at_builtin; refine wpList_append_lies _ rfl _ _ 33 rfl w.heap.size 34 ib (.agg #[.string ⟨#[]⟩, .string ⟨#[]⟩]) 2 32 Tryd.underlying33 hib hz0 hz1 hz2 rfl (by decide) _ _ _ rfl (HO3.out.alloc _) ⟨w3.heap.size, 0, none⟩ 1 1 p.cells rfl rfl (news_pk w3 p _) (pk_one _) (by decide) ?c1 ?c2 ?c3 _ rfl ?_)
          case c1 => unfold maxLen; omega
          case c2 => omega
          case c3 => simp; omega
          intro g cp w4 hown4 hgrow4 _ _
          have HB4 : Hid (Below w.heap.size w w4) := (HB3.out.alloc hzr3 _).grown hgrow4 (by simp; omega) (fun k hk => (HO3.out.lt k hk).1)
          have HO4 : Hid (w4.ownsRow w.heap.size 34 2 (.slice (some ⟨g, 0, none⟩) (acc ++ [p]).length cp) (acc ++ [p]).length (pkCells (acc ++ [p]))) := by
            rw [pkCells_append, pkCells_one, List.length_append]; exact hown4
          clear hown4 hgrow4
          go_wp2_with fail
          go_roundw
          case rel => exact ⟨j + 1, some ⟨g, 0, none⟩, cp, acc ++ [p], by omega, by simp; omega, by go_num, by simp, HO4.out, HB4.out, by rw [Hid, HT.out, ← HC.out]; simp⟩
          case measure => simp [intOf]; omega
      · have hj1 : ¬ (j : Int) < n := by omega
        have e : acc = R := by rw [HC.out, HFL.out, List.take_of_length_le (by have := Hn.out; omega)]
        have HP := Go.Lib.hid (pks_of_owns hown).2
        have HE := Go.Lib.hid e
        have HB := Go.Lib.hid hb
        clear hown e hb
        go_wp2_with fail
        go_returns
        exact ⟨A, c, by rw [← HE.out]; rfl, by rw [← HE.out]; exact HP.out, HB.out⟩

theorem filtered_by_1 (any : Bool) (a : Option Addr) (cap : Nat) (ps : List Pk) (part : ByteArray) (w : World) (h : IsPks w a ps) (hfi : Fine ps) (hp : IsAscii part) (hz : part.size ≤ 60) :
    Calls Tryd.prog 11 #[.slice a ps.length cap, .string part, .bool any] w (PksPost (filt preA any part ps) w) := by
  have eg : ∀ args w, (callFunc 16 args).run Tryd.prog w = .ok (.enter 16 args) w := fun _ _ => by kernel_rfl
  have H := Go.Lib.hid (filter_core 16 preA ask_pre eg any a cap ps part w h hfi hp hz)
  clear eg h hfi hp hz
  generalize filt preA any part ps = R at H ⊢
  unfold PksPost at H
  go_enter Tryd.func11, Tryd.ntmps11
  go_wp2_with fail
  refine H.out.mono ?_
  rintro e w1 ⟨B, c, rfl, h1, h2⟩
  have H1 := Go.Lib.hid h1
  have H2 := Go.Lib.hid h2
  clear h1 h2
  go_wp2_with fail
  go_returns
  exact ⟨B, c, rfl, H1.out, H2.out⟩

theorem filtered_by_2 (any : Bool) (a : Option Addr) (cap : Nat) (ps : List Pk) (part : ByteArray) (w : World) (h : IsPks w a ps) (hfi : Fine ps) (hp : IsAscii part) (hz : part.size ≤ 60) :
    Calls Tryd.prog 12 #[.slice a ps.length cap, .string part, .bool any] w (PksPost (filt sufA any part ps) w) := by
  have eg : ∀ args w, (callFunc 17 args).run Tryd.prog w = .ok (.enter 17 args) w := fun _ _ => by kernel_rfl
  have H := Go.Lib.hid (filter_core 17 sufA ask_suf eg any a cap ps part w h hfi hp hz)
  clear eg h hfi hp hz
  generalize filt sufA any part ps = R at H ⊢
  unfold PksPost at H
  go_enter Tryd.func12, Tryd.ntmps12
  go_wp2_with fail
  refine H.out.mono ?_
  rintro e w1 ⟨B, c, rfl, h1, h2⟩
  have H1 := Go.Lib.hid h1
  have H2 := Go.Lib.hid h2
  clear h1 h2
  go_wp2_with fail
  go_returns
  exact ⟨B, c, rfl, H1.out, H2.out⟩

theorem filtered_by_3 (any : Bool) (a : Option Addr) (cap : Nat) (ps : List Pk) (part : ByteArray) (w : World) (h : IsPks w a ps) (hfi : Fine ps) (hp : IsAscii part) (hz : part.size ≤ 60) :
    Calls Tryd.prog 13 #[.slice a ps.length cap, .string part, .bool any] w (PksPost (filt conA any part ps) w) := by
  have eg : ∀ args w, (callFunc 18 args).run Tryd.prog w = .ok (.enter 18 args) w := fun _ _ => by kernel_rfl
  have H := Go.Lib.hid (filter_core 18 conA ask_con eg any a cap ps part w h hfi hp hz)
  clear eg h hfi hp hz
  generalize filt conA any part ps = R at H ⊢
  unfold PksPost at H
  go_enter Tryd.func13, Tryd.ntmps13
  go_wp2_with fail
  refine H.out.mono ?_
  rintro e w1 ⟨B, c, rfl, h1, h2⟩
  have H1 := Go.Lib.hid h1
  have H2 := Go.Lib.hid h2
  clear h1 h2
  go_wp2_with fail
  go_returns
  exact ⟨B, c, rfl, H1.out, H2.out⟩

theorem filtered_by_4 (any : Bool) (a : Option Addr) (cap : Nat) (ps : List Pk) (part : ByteArray) (w : World) (h : IsPks w a ps) (hfi : Fine ps) (hp : IsAscii part) (hz : part.size ≤ 60) :
    Calls Tryd.prog 14 #[.slice a ps.length cap, .string part, .bool any] w (PksPost (filt fuzA any part ps) w) := by
  have eg : ∀ args w, (callFunc 19 args).run Tryd.prog w = .ok (.enter 19 args) w := fun _ _ => by kernel_rfl
  have H := Go.Lib.hid (filter_core 19 fuzA ask_fuz eg any a cap ps part w h hfi hp hz)
  clear eg h hfi hp hz
  generalize filt fuzA any part ps = R at H ⊢
  unfold PksPost at H
  go_enter Tryd.func14, Tryd.ntmps14
  go_wp2_with fail
  refine H.out.mono ?_
  rintro e w1 ⟨B, c, rfl, h1, h2⟩
  have H1 := Go.Lib.hid h1
  have H2 := Go.Lib.hid h2
  clear h1 h2
  go_wp2_with fail
  go_returns
  exact ⟨B, c, rfl, H1.out, H2.out⟩
end Go.Proofs.YtldlgipailfbnaaDoor
