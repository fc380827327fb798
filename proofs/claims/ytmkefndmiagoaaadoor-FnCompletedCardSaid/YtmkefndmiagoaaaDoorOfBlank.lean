/- readline.doInternal at a line of a word, blanks and what is begun: the words beneath that word are offered. -/
import Derived.Test.YtmkefndmiagoaaaDoorOfBlankP
namespace Go.Proofs.YtmkefndmiagoaaaDoor
open Go.RowKit
set_option linter.unusedVariables false
set_option linter.unusedSimpArgs false

/-- Behind some children: none has been offered yet, or the word's own one alone. -/
def StB (wb : World) (q k pq : Nat) (R : Value) (m1 : Nat) (v ov gv lv : Value) (wr : World) : Prop :=
  Below wb.heap.size wb wr ∧ ((k ≤ q ∧ wr.ownsRow wb.heap.size 51 1 v 0 [] ∧ ov = .int .i64 0 ∧ gv = .bool false ∧ lv = .nilIface) ∨ (q < k ∧ wr.ownsRow wb.heap.size 51 1 v 1 [R] ∧ ov = .int .i64 (m1 : Nat) ∧ gv = .bool true ∧ lv = pcV pq))
theorem StB.same {wb : World} {q k pq : Nat} {R : Value} {m1 : Nat} {v ov gv lv : Value} {wr wr' : World} (h : StB wb q k pq R m1 v ov gv lv wr) (hb : Below wr.heap.size wr wr') : StB wb q k pq R m1 v ov gv lv wr' := by
  obtain ⟨h1, h2⟩ := h
  refine ⟨h1.trans (hb.mono h1.size), ?_⟩
  rcases h2 with ⟨a, b, c⟩ | ⟨a, b, c⟩
  · exact .inl ⟨a, row_below b hb, c⟩
  · exact .inr ⟨a, row_below b hb, c⟩

theorem StB.next {wb : World} {q k pq : Nat} {R : Value} {m1 : Nat} {v ov gv lv : Value} {wr : World} (h : StB wb q k pq R m1 v ov gv lv wr) (hne : k ≠ q) : StB wb q (k + 1) pq R m1 v ov gv lv wr := by
  obtain ⟨h1, h2⟩ := h
  refine ⟨h1, ?_⟩
  rcases h2 with ⟨a, b⟩ | ⟨a, b⟩
  · exact .inl ⟨by omega, b⟩
  · exact .inr ⟨by omega, b⟩
theorem StB.own {wb : World} {q k pq : Nat} {R : Value} {m1 : Nat} {v ov gv lv : Value} {wr : World} (h : StB wb q k pq R m1 v ov gv lv wr) : ∃ n xs, wr.ownsRow wb.heap.size 51 1 v n xs := by
  rcases h.2 with ⟨_, b, _⟩ | ⟨_, b, _⟩
  · exact ⟨_, _, b⟩
  · exact ⟨_, _, b⟩
theorem fromA_flat {g o c i : Nat} (h : c ≠ i) : fromA (some ⟨g, o, none⟩) c i = some ⟨g, o + i, none⟩ := by
  unfold fromA
  rw [if_neg h]
  simp only [Option.map_some, Addr.add]
  by_cases h0 : i = 0
  · rw [if_pos h0, h0]; rfl
  · rw [if_neg h0]
theorem rune_own {w : World} {base g n cap : Nat} {F : List Int} (h : w.ownsRow base 21 1 (.slice (some ⟨g, 0, none⟩) n cap) n (F.map (.int .i32))) : RuneRow w (some ⟨g, 0, none⟩) F ∧ n ≤ cap := by
  have hl := h.1
  rw [List.length_map] at hl
  rcases h.2 with ⟨e, _⟩ | ⟨g', cap', cur, hv, hg, hh, hc, _, hcs, htk⟩
  · cases e
  · cases hv
    refine ⟨fun j hj => ⟨g, 0, rfl, ?_⟩, hc⟩
    rw [Nat.zero_add, World.cell?, hh]
    have := congrArg (·[j]?) htk
    rw [List.getElem?_take_of_lt (by omega)] at this
    simp [hj] at this
    simp [this, nth, hj]

set_option maxRecDepth 100000 in
set_option maxHeartbeats 4000000 in
theorem do_blanks (w0 w : World) (hb0 : Below w0.heap.size w0 w) (pb q pq : Nat) (ss ks : List ByteArray) (s b x : ByteArray) (k0 : Nat) (A : Option Addr) (c : Nat) (orig : Value)
    (hroot : Root w0 pb ss.length fun j p => Named w0 p (txt ss j)) (hss : ss.length ≤ 8) (hs : ∀ j, j < ss.length → (txt ss j).size ≤ 12 ∧ IsSmall (txt ss j))
    (hq : q < ss.length) (hsq : txt ss q = s) (hdiff : ∀ j, j < ss.length → j ≠ q → txt ss j ≠ s)
    (hpq : ∃ A3 c3, w0.cell? ⟨pb, 3, none⟩ = some (.slice A3 ss.length c3) ∧ ∃ b3 o3, A3 = some ⟨b3, o3, none⟩ ∧ w0.cell? ⟨b3, o3 + q, none⟩ = some (pcV pq))
    (hkq : Root w0 pq ks.length fun j p => Named w0 p (txt ks j)) (hks : ks.length ≤ 8) (hksm : ∀ j, j < ks.length → (txt ks j).size ≤ 12 ∧ IsSmall (txt ks j))
    (hl2 : Line2 s b x k0) (hbz : x.size ≤ 100) (hline : RuneRow w A (runes x)) (hc : x.size ≤ c) :
    Calls Tryd.prog 27 #[pcV pb, .slice A x.size c, .int .i64 (x.size : Nat), orig] w (DoiPost w0 (offs ks b) b.size w) := by
  obtain ⟨ib, hib, hz0, hz1, hz2⟩ := info_parts (show (Tryd.prog.info? 51).map (fun i => (i.zero, i.size, i.bytes)) = some (some (.slice none 0 0), 1, 24) by kernel_rfl)
  obtain ⟨ic, hic, hy0, hy1, hy2⟩ := info_parts (show (Tryd.prog.info? 21).map (fun i => (i.zero, i.size, i.bytes)) = some (some (.int .i32 0), 1, 4) by kernel_rfl)
  have hld : ∀ (W : World) (a : Addr), (loadVar 54 a).run Tryd.prog W = .ok (.agg #[]) W := fun W a => by kernel_rfl
  have hup0 := fun A => up_run A x.size c x.size hc
  have hdyn := asDyn
  obtain ⟨A3, c3, hA3, hpb, hkid⟩ := hroot
  obtain ⟨A3', c3', hA3', b3q, o3q, hA3q, hcq⟩ := hpq
  have hAA : A3' = A3 := by rw [hA3] at hA3'; injection hA3' with e; injection e with e1 _ _; exact e1.symm
  have hA3w := (hb0.cell (p := ⟨pb, 3, none⟩) hpb).trans hA3
  have HKID := Go.Lib.hid hkid
  have HS := Go.Lib.hid hs
  have HL2 := Go.Lib.hid hl2
  have HB0 := Go.Lib.hid hb0
  obtain ⟨gl, ol, rfl, -⟩ := hline 0 (by rw [runes_ascii_length x hl2.ascii, hl2.size]; have := hl2.hs0; omega)
  have HLINE := Go.Lib.hid hline
  have hup := hup0 (some ⟨gl, ol, none⟩)
  clear hup0
  have hrl := runes_ascii_length x hl2.ascii
  have hxsz := hl2.size
  have hk01 := hl2.hk
  have hk04 := hl2.h4
  have hs00 := hl2.hs0
  have hb00 := hl2.hb0
  have HTRIM : Hid (∀ W : World, Below w.heap.size w W → Calls Tryd.prog 32 #[.agg #[], .slice (some ⟨gl, ol, none⟩) x.size c] W fun e w' => e = .returned (.slice (some ⟨gl, ol, none⟩) x.size c) ∧ Below W.heap.size W w') := fun W hW => by
    have := trim_any (some ⟨gl, ol, none⟩) c (runes x) W (hline.mono hW) (fun _ => hl2.head)
    rwa [hrl] at this
  have HPRE : Hid (∀ (W : World) (B : Option Addr) (d : Nat) (j : Nat), Below w.heap.size w W → j < ss.length → RuneRow W B (runes (txt ss j) ++ [32]) → (txt ss j).size + 1 ≤ x.size → Calls Tryd.prog 33 #[.agg #[], .slice (some ⟨gl, ol, none⟩) x.size c, .slice B ((txt ss j).size + 1) d] W fun e w' => e = .returned (.bool (decide (j = q))) ∧ Below W.heap.size W w') := fun W B d j hW hj hB hle => by
    obtain ⟨hj12, hjs⟩ := hs j hj
    have hsl : (runes (txt ss j) ++ [32]).length = (txt ss j).size + 1 := by rw [List.length_append, runes_ascii_length _ hjs.ascii]; rfl
    have := hasPrefix_any (some ⟨gl, ol, none⟩) B c d (runes x) (runes (txt ss j) ++ [32]) W (hline.mono hW) hB (by rw [hrl]; exact hc) (by rw [hsl, hrl]; exact hle) (by omega)
    rw [hrl, hsl] at this
    refine this.mono ?_
    rintro e w' ⟨r, rfl, hr, hb⟩
    refine ⟨?_, hb⟩
    by_cases e : j = q
    · subst e
      have h1 := hl2.own
      rw [← hsq, hsl] at h1
      rw [hr.2 h1]; simp
    · have h1 := hl2.other hjs (hdiff j hj e)
      rw [hsl] at h1
      cases r
      · simp [e]
      · exact absurd (hr.1 rfl) h1
  have HPRF : Hid (∀ (W : World) (B : Option Addr) (d : Nat) (j : Nat), Below w.heap.size w W → j < ss.length → RuneRow W B (runes (txt ss j) ++ [32]) → (txt ss j).size + 1 ≤ d → x.size ≤ (txt ss j).size → Calls Tryd.prog 33 #[.agg #[], .slice B ((txt ss j).size + 1) d, .slice (some ⟨gl, ol, none⟩) x.size c] W fun e w' => e = .returned (.bool false) ∧ Below W.heap.size W w') := fun W B d j hW hj hB hd hle => by
    obtain ⟨hj12, hjs⟩ := hs j hj
    have hsl : (runes (txt ss j) ++ [32]).length = (txt ss j).size + 1 := by rw [List.length_append, runes_ascii_length _ hjs.ascii]; rfl
    have := hasPrefix_any B (some ⟨gl, ol, none⟩) d c (runes (txt ss j) ++ [32]) (runes x) W hB (hline.mono hW) (by rw [hsl]; exact hd) (by rw [hsl, hrl]; omega) (by omega)
    rw [hsl] at this
    rw [show (Value.slice (some ⟨gl, ol, none⟩) (runes x).length c) = .slice (some ⟨gl, ol, none⟩) x.size c by rw [hrl]] at this
    refine this.mono ?_
    rintro e w' ⟨r, rfl, hr, hb⟩
    refine ⟨?_, hb⟩
    cases r
    · rfl
    · exact absurd (hr.1 rfl) (hl2.longer hjs hle)
  have HREC : Hid (∀ (W : World) (A' : Option Addr) (c' : Nat), Below w0.heap.size w0 W → RuneRow W A' (runes b) → b.size ≤ c' → Calls Tryd.prog 27 #[pcV pq, .slice A' b.size c', .int .i64 (b.size : Nat), orig] W (DoiPost w0 (offs ks b) b.size W)) := fun W A' c' hW hr hc' =>
    do_letters w0 W hW pq ks b A' c' orig hkq hks hksm hl2.hb (by omega) hr hc'
  have HQS : Hid (txt ss q = s) := hsq
  have HCQ : Hid (∀ b3 o3, A3 = some ⟨b3, o3, none⟩ → w0.cell? ⟨b3, o3 + q, none⟩ = some (pcV pq)) := fun b3 o3 e => by
    rw [hAA, e] at hA3q
    cases hA3q
    exact hcq
  clear hkid hs hb0 hline hA3 hrl hl2 hkq hksm hdiff hsq hA3' hA3q hcq hAA hks
  obtain ⟨n, hn⟩ : ∃ n, n = ss.length := ⟨_, rfl⟩
  have HN := Go.Lib.hid hn
  rw [← hn] at hA3w hss HKID hq HPRE HPRF
  clear hn
  have hxz2 : s.size + 2 ≤ x.size := by omega
  have HXSZ := Go.Lib.hid hxsz
  clear hxsz
  obtain ⟨mm, hmm⟩ : ∃ z, z = x.size := ⟨_, rfl⟩
  have HXE := Go.Lib.hid hmm
  rw [← hmm] at hup HTRIM hc hbz hxz2 HXSZ HPRE HPRF ⊢
  clear hmm
  obtain ⟨m, rfl⟩ : ∃ m, m = mm := ⟨_, rfl⟩
  go_enter Tryd.func27, Tryd.ntmps27
  go_wp2_with fail
  refine region_quiet_tail 4 (by kernel_rfl) (by kernel_rfl) ?_
  simp only [List.take_succ_cons, List.take_zero, List.drop_succ_cons, List.drop_zero]
  repeat (go_big_quiet_step (fail))
  refine wpQuiet_nil ?_
  intro _ hw'
  obtain ⟨nq, hw''⟩ := hw'
  subst hw''
  go_wp2_with fail
  have hb1 : Below w.heap.size w (w.drewN nq) := below_drewN (Below.refl _ _) nq
  refine (HTRIM.out _ hb1).mono ?_
  rintro e w1 ⟨rfl, b1⟩
  have HB1 : Hid (Below w.heap.size w w1) := hb1.trans (b1.mono hb1.size)
  have HA3 := Go.Lib.hid ((HB1.out.cell (p := ⟨pb, 3, none⟩) (lt_of_cell hA3w)).trans hA3w)
  clear b1 hb1 HTRIM
  go_wp2_with fail
  refine (getChildren_any pb _ w1 HA3.out).mono ?_
  rintro e w2 ⟨rfl, rfl⟩
  clear hA3w
  go_wp2_with fail
  -- the row of the word's own name
  rcases HKID.out with e0 | ⟨b3, o3, rfl, hb3, hkd⟩
  · omega
  have HKD := Go.Lib.hid hkd
  obtain ⟨pq', hcpq, gq, ccq, nq0, nq1, hccq, hgq, hpq', hrowq⟩ := hkd q hq
  have epq : pq' = pq := by
    have h1 := HCQ.out b3 o3 rfl
    rw [hcpq] at h1
    injection h1 with h1
    injection h1 with h1 h2
    injection h2 with h2
    injection h2 with h2
    injection h2 with h2
  subst epq
  rw [HQS.out] at nq0 hccq hrowq
  have HNQ0 := Go.Lib.hid nq0
  clear hkd hcpq nq0 nq1 hccq hpq' hrowq hgq
  go_loopw [8, 9, 10, 11, 29] (fun tv ov gv lv i wr => ∃ (k : Nat) (v o g l : Value), v = tv ∧ o = ov ∧ g = gv ∧ l = lv ∧ k ≤ n ∧ i = .int .i64 k ∧ Hid (StB w q k pq' (.slice (some ⟨gq, 0, none⟩) (s.size + 1) ccq) (s.size + 1) v o g l wr)) (fun _ _ _ _ i _ => n - (intOf i).toNat)
  case atStart => exact ⟨0, _, _, _, _, rfl, rfl, rfl, rfl, Nat.zero_le _, rfl, HB1.out, .inl ⟨Nat.zero_le _, World.ownsRow_nil _ _ _ _, rfl, rfl, rfl⟩⟩
  case round =>
    obtain ⟨k, v, o, gvv, lvv, rfl, rfl, rfl, rfl, hk, rfl, HQ⟩ := hrel
    by_cases hlt : k < n
    · obtain ⟨p, hcp, g, cc, n0, n1, hcc, hg, hp, hrow⟩ := HKD.out k hlt
      have HKQ : Hid (k = q → p = pq' ∧ (Value.slice (some ⟨g, 0, none⟩) ((txt ss k).size + 1) cc) = .slice (some ⟨gq, 0, none⟩) (s.size + 1) ccq) := fun e => by
        subst e
        have h1 := HCQ.out b3 o3 rfl
        rw [hcp] at h1
        injection h1 with h1
        injection h1 with h1 h2
        injection h2 with h2
        injection h2 with h2
        injection h2 with h2
        subst h2
        have h3 := HNQ0.out
        rw [n0] at h3
        exact ⟨rfl, Option.some.inj h3⟩
      have HSK : Hid (k = q → txt ss k = s) := fun e => by rw [e]; exact HQS.out
      have HPK := Go.Lib.hid fun W B d h1 h2 h3 => HPRE.out W B d k h1 hlt h2 h3
      have HFK := Go.Lib.hid fun W B d h1 h2 h3 h4 => HPRF.out W B d k h1 hlt h2 h3 h4
      obtain ⟨t, ht⟩ : ∃ t, t = txt ss k := ⟨_, rfl⟩
      rw [← ht] at n0 hcc hrow HKQ HSK HPK HFK
      clear ht
      have hbel := HQ.out.1
      have HBW : Hid (Below w0.heap.size w0 wr) := HB0.out.trans (hbel.mono HB0.out.size)
      have HROW := Go.Lib.hid hrow
      have e3 := (HBW.out.cell (p := ⟨b3, o3 + k, none⟩) hb3).trans hcp
      have HN0 : Hid (∀ W : World, Below wr.heap.size wr W → W.cell? ⟨p, 0, none⟩ = some (.slice (some ⟨g, 0, none⟩) (t.size + 1) cc)) := fun W hW => ((HBW.out.trans (hW.mono HBW.out.size)).cell (p := ⟨p, 0, none⟩) hp).trans n0
      have HN1 : Hid (∀ W : World, Below wr.heap.size wr W → W.cell? ⟨p, 1, none⟩ = some (.bool false)) := fun W hW => ((HBW.out.trans (hW.mono HBW.out.size)).cell (p := ⟨p, 1, none⟩) hp).trans n1
      have hnb : v.ownBlock ≠ some wr.heap.size := by
        obtain ⟨n', xs', h1⟩ := HQ.out.own
        exact own_lt h1
      have hk0 : (0 : Int) ≤ k := by omega
      have hk1 : (k : Int) < n := by omega
      clear hbel hrow n0 n1 hcp
      go_wp2_with (at_make; refine wpList_make_full _ rfl _ _ 45 rfl wr.heap.size 51 ib (.slice none 0 0) 1 Tryd.underlying45 hib hz0 hz1 .i64 .i64 1 1 1 rfl rfl rfl rfl ?c2 ?c3 ?c4 ?_)
      case c3 => unfold maxLen; omega
      intro w3 hown3 hgrow3
      have hb3' : Below wr.heap.size wr w3 := (Below.refl _ _).grown hgrow3 (Nat.le_refl _) (fun j hj => by cases hj)
      obtain ⟨B, hB⟩ : ∃ B, B = wr.heap.size := ⟨_, rfl⟩
      rw [← hB] at hown3 hnb ⊢
      have HBB := Go.Lib.hid hB
      clear hB
      obtain ⟨⟨u0, hu0⟩, hf0, hz3⟩ := made_one hown3
      have HB3 := Go.Lib.hid hb3'
      clear hown3 hgrow3 hb3'
      go_wp2_with fail
      refine (isDynamic_any p _ w3 (HN1.out w3 HB3.out)).mono ?_
      rintro e w4 ⟨rfl, rfl⟩
      go_wp2_with fail
      refine (getName_any p _ w3 (HN0.out w3 HB3.out)).mono ?_
      rintro e w4 ⟨rfl, rfl⟩
      go_wp2_with fail
      have hW4 : (w3.setCell ⟨B, 0, none⟩ (.slice (some ⟨g, 0, none⟩) (t.size + 1) cc)).cell? ⟨B, 0, none⟩ = some (.slice (some ⟨g, 0, none⟩) (t.size + 1) cc) := World.cell?_setCell_same' _ _ _ (by rw [hu0]; rfl)
      have HQ4 : Hid (StB w q (k + 0) pq' (.slice (some ⟨gq, 0, none⟩) (s.size + 1) ccq) (s.size + 1) v o gvv lvv (w3.setCell ⟨B, 0, none⟩ (.slice (some ⟨g, 0, none⟩) (t.size + 1) cc))) := by
        obtain ⟨h1, h2⟩ := HQ.out.same HB3.out
        refine ⟨h1.setCell (by show _ ≤ B; rw [HBB.out]; exact HQ.out.1.size) _, ?_⟩
        rcases h2 with ⟨a, b, c⟩ | ⟨a, b, c⟩
        · exact .inl ⟨a, ownsRow_setCell_other b hnb _, c⟩
        · exact .inr ⟨a, ownsRow_setCell_other b hnb _, c⟩
      obtain ⟨W4, hW⟩ : ∃ W, W = w3.setCell ⟨B, 0, none⟩ (.slice (some ⟨g, 0, none⟩) (t.size + 1) cc) := ⟨_, rfl⟩
      rw [← hW] at hW4 HQ4 ⊢
      clear hW hu0 hf0 hz3 e3 HB3 HN0 HN1 HQ
      go_loopw [8, 9, 10, 11, 53] (fun tv ov gv lv i wq => ∃ (r : Nat) (v o gg l : Value), v = tv ∧ o = ov ∧ gg = gv ∧ l = lv ∧ r ≤ 1 ∧ i = .int .i64 r ∧ Hid (StB w q (k + r) pq' (.slice (some ⟨gq, 0, none⟩) (s.size + 1) ccq) (s.size + 1) v o gg l wq) ∧ Hid (r = 0 → wq.cell? ⟨B, 0, none⟩ = some (.slice (some ⟨g, 0, none⟩) (t.size + 1) cc))) (fun _ _ _ _ i _ => 1 - (intOf i).toNat)
      case atStart => exact ⟨0, _, _, _, _, rfl, rfl, rfl, rfl, by omega, rfl, HQ4.out, fun _ => hW4⟩
      case round =>
        obtain ⟨r, v, o, gvv, lvv, rfl, rfl, rfl, rfl, hr, rfl, HQ, HC⟩ := hrel
        by_cases hr0 : r = 0
        · subst hr0
          have c0 := HC.out rfl
          have hbel := HQ.out.1
          have HBW : Hid (Below w0.heap.size w0 wr) := HB0.out.trans (hbel.mono HB0.out.size)
          have HBEL := Go.Lib.hid hbel
          have HR := Go.Lib.hid (HROW.out.mono HBW.out)
          clear hbel HC
          by_cases hge : t.size + 1 ≤ m
          · go_wp2_with fail
            refine (HPK.out wr _ cc HBEL.out HR.out hge).mono ?_
            rintro e w5 ⟨rfl, b5⟩
            have HQ5 := Go.Lib.hid (HQ.out.same b5)
            have HB5 := Go.Lib.hid b5
            clear b5
            obtain ⟨dv, hdv⟩ : ∃ d, d = decide (k = q) := ⟨_, rfl⟩
            rw [← hdv]
            cases dv
            · have hne : k ≠ q := fun e => by simp [e] at hdv
              have HQ6 := Go.Lib.hid (HQ5.out.next (show k + 0 ≠ q from hne))
              clear hdv
              go_wp2_with fail
              go_roundw
              case rel => exact ⟨1, v, o, gvv, lvv, rfl, rfl, rfl, rfl, Nat.le_refl _, by go_num, HQ6.out, fun h => by cases h⟩
              case measure => simp [intOf]
            · have heq : k = q := by simpa using hdv.symm
              have hts := HSK.out heq
              obtain ⟨rfl, hRR⟩ := HKQ.out heq
              rcases HQ5.out.2 with ⟨_, hown, rfl, rfl, rfl⟩ | ⟨hx1, _⟩
              · have q17 : ((m : Int) == (t.size : Int) + 1) = false := by rw [hts]; simp; omega
                have hrow5 := hown.lt
                have HOWN := Go.Lib.hid hown
                have hwz : w.heap.size ≤ w5.heap.size := HQ5.out.1.size
                have hnews := news_any w5 (.slice (some ⟨g, 0, none⟩) (t.size + 1) cc) 51
                have HTS := Go.Lib.hid hts
                have HRRR := Go.Lib.hid hRR
                have HEQ := Go.Lib.hid heq
                clear hown hdv hts hRR heq
                go_wp2_with (at_builtin; refine wpList_append_own _ rfl _ _ 45 rfl w.heap.size 51 ib (.slice none 0 0) 1 24 Tryd.underlying45 hib hz0 hz1 hz2 rfl (by decide) v 0 [] rfl (HOWN.out.alloc _) ⟨w5.heap.size, 0, none⟩ 1 1 [.slice (some ⟨g, 0, none⟩) (t.size + 1) cc] rfl rfl hnews (by simp [Value.oneCell']) ?d1 ?d2 ?d3 ?_)
                case d1 => unfold maxLen; omega
                case d2 => omega
                case d3 => simp; omega
                intro v2 w6 hown6 hgrow6 _
                have HQ6 : Hid (StB w q (k + 1) p (.slice (some ⟨gq, 0, none⟩) (s.size + 1) ccq) (s.size + 1) v2 (.int .i64 ((t.size : Int) + 1)) (.bool true) (pcV p) w6) := by
                  refine ⟨(HQ5.out.1.alloc hwz _).grown hgrow6 (by simp; omega) fun j hj => (hrow5 j hj).1, .inr ⟨by have := HEQ.out; omega, ?_, by rw [HTS.out]; rfl, rfl, rfl⟩⟩
                  have := hown6
                  rw [HRRR.out] at this
                  exact this
                clear hown6 hgrow6 hnews hrow5
                go_wp2_with fail
                go_roundw
                case rel => exact ⟨1, v2, _, _, _, rfl, rfl, rfl, rfl, Nat.le_refl _, by go_num, HQ6.out, fun h => by cases h⟩
                case measure => simp [intOf]
              · omega
          · have hle : m ≤ t.size := by omega
            have hne : k ≠ q := fun e => by have h1 := HSK.out e; rw [h1] at hle; omega
            go_wp2_with fail
            refine (HFK.out wr _ cc HBEL.out HR.out hcc hle).mono ?_
            rintro e w5 ⟨rfl, b5⟩
            have HQ6 := Go.Lib.hid ((HQ.out.same b5).next (show k + 0 ≠ q from hne))
            clear b5
            go_wp2_with fail
            go_roundw
            case rel => exact ⟨1, v, o, gvv, lvv, rfl, rfl, rfl, rfl, Nat.le_refl _, by go_num, HQ6.out, fun h => by cases h⟩
            case measure => simp [intOf]
        · obtain rfl : r = 1 := by omega
          go_wp2_with fail
          go_roundw
          case rel => exact ⟨k + 1, v, o, gvv, lvv, rfl, rfl, rfl, rfl, by omega, by go_num, HQ.out⟩
          case measure => simp [intOf]; omega
    · obtain rfl : k = n := by omega
      have hk1 : ¬ ((k : Int) < k) := by omega
      rcases HQ.out.2 with ⟨hx1, _⟩ | ⟨_, hown, rfl, rfl, rfl⟩
      · omega
      obtain ⟨A8, c8, rfl⟩ := row_shape hown
      have HBEL := Go.Lib.hid HQ.out.1
      have HST := Go.Lib.hid hown
      clear hown
      go_wp2_with (at_make; refine wpList_make_own _ rfl _ _ 51 rfl wr.heap.size 21 ic (.int .i32 0) 1 Tryd.underlying51 hic hy0 hy1 .i64 .i64 (m : Int) m rfl rfl rfl ?e2 ?e3 ?e4 ?_)
      case e2 => first | omega | (rw [hy2]; omega)
      case e3 => unfold maxLen; omega
      intro w3 hown3 hgrow3
      have hb3' : Below wr.heap.size wr w3 := (Below.refl _ _).grown hgrow3 (Nat.le_refl _) (fun j hj => by cases hj)
      have HB3 : Hid (Below w.heap.size w w3) := HBEL.out.trans (hb3'.mono HBEL.out.size)
      obtain ⟨B, hB⟩ : ∃ B, B = wr.heap.size := ⟨_, rfl⟩
      rw [← hB] at hown3 ⊢
      have HOWN3 := Go.Lib.hid hown3
      have hbz3 : w.heap.size ≤ B := by rw [hB]; exact HBEL.out.size
      clear hown3 hgrow3 hb3' hB
      go_wp2_with fail
      go_loopw [8, 9, 19, 20] (fun tv ov lv i wq => tv = .slice A8 1 c8 ∧ ov = .int .i64 ((s.size + 1 : Nat) : Int) ∧ lv = .slice (some ⟨B, 0, none⟩) 0 m ∧ ∃ i0 : Nat, s.size + 1 ≤ i0 ∧ i0 ≤ s.size + k0 ∧ i = .int .i64 (i0 : Nat) ∧ Hid (Below w.heap.size w wq) ∧ Hid (wq.ownsRow B 21 1 (.slice (some ⟨B, 0, none⟩) 0 m) 0 [])) (fun _ _ _ i _ => m - (intOf i).toNat)
      case atStart => exact ⟨rfl, rfl, rfl, s.size + 1, Nat.le_refl _, by omega, rfl, HB3.out, HOWN3.out⟩
      case round =>
        obtain ⟨rfl, rfl, rfl, i0, hi0, hi1, rfl, HB, HO⟩ := hrel
        have him : i0 < m := by have := HXSZ.out; omega
        obtain ⟨g', o', e', hci⟩ := HLINE.out.mono HB.out i0 (by rw [runes_ascii_length x HL2.out.ascii]; rw [← HXE.out]; exact him)
        cases e'
        by_cases hbk : i0 < s.size + k0
        · have hz : nth (runes x) i0 = 32 := by
            have := HL2.out.blank (i0 - s.size) (by omega)
            rwa [show s.size + (i0 - s.size) = i0 by omega] at this
          rw [hz] at hci
          clear hz
          go_wp2_with fail
          go_roundw
          case rel => exact ⟨rfl, rfl, rfl, i0 + 1, by omega, by omega, by go_num, HB.out, HO.out⟩
          case measure => simp [intOf]; omega
        · have hi : i0 = s.size + k0 := by omega
          have hz : nth (runes x) i0 ≠ 32 := by rw [hi]; exact HL2.out.first
          generalize nth (runes x) i0 = z at hci hz
          have hzq : (z == 32) = false := by simpa using hz
          have hfr := from_run (some ⟨gl, ol, none⟩) m c i0 (by omega)
          rw [fromA_flat (by omega), show m - i0 = b.size by have := HXSZ.out; omega] at hfr
          have hRB : RuneRow wr (some ⟨gl, ol + i0, none⟩) (runes b) := by
            have h1 := (HLINE.out.mono HB.out).drop c i0 (by rw [runes_ascii_length x HL2.out.ascii, ← HXE.out]; exact hc)
            rw [fromA_flat (by omega)] at h1
            have h2 : (runes x).drop i0 = runes b := by rw [hi]; exact HL2.out.drop
            rwa [h2] at h1
          have hnews : ∀ (j : Nat) (u : Value), ((runes b).map (.int .i32))[j]? = some u → wr.cell? ((⟨gl, ol + i0, none⟩ : Addr).add j) = some u := fun j u hu => by
            rw [List.getElem?_map] at hu
            obtain ⟨z', hz1, rfl⟩ := Option.map_eq_some_iff.1 hu
            have hj := (List.getElem?_eq_some_iff.1 hz1).1
            obtain ⟨g', o', e', hcl⟩ := hRB j hj
            cases e'
            have e : (⟨gl, ol + i0, none⟩ : Addr).add j = ⟨gl, ol + i0 + j, none⟩ := by
              unfold Addr.add
              by_cases e : j = 0
              · rw [if_pos e, e]; rfl
              · rw [if_neg e]
            rw [e, hcl]
            have := (List.getElem?_eq_some_iff.1 hz1).2
            simp [nth, hj, this]
          have HNW := Go.Lib.hid hnews
          have hbl := runes_ascii_length b HL2.out.hb.ascii
          have HBLL : Hid (((runes b).map (Value.int .i32)).length = b.size * 1) := by rw [Hid, List.length_map, hbl, Nat.mul_one]
          have hwz := HB.out.size
          have hBz : B ≤ wr.heap.size := by
            have := HO.out.lt B rfl
            omega
          obtain ⟨c4, hc4⟩ : ∃ z, z = c - i0 := ⟨_, rfl⟩
          rw [← hc4] at hfr
          have hlo := HO.out.lt
          clear hnews hz hRB hbl hc4 hi
          obtain ⟨bs, hbs⟩ : ∃ z, z = b.size := ⟨_, rfl⟩
          have HBS := Go.Lib.hid hbs
          rw [← hbs] at hfr HBLL hb00
          have hbs100 : bs ≤ 100 := by have := HXSZ.out; omega
          clear hbs
          go_wp2_with (at_builtin; refine wpList_append_lies _ rfl _ _ 51 rfl B 21 ic (.int .i32 0) 1 4 Tryd.underlying51 hic hy0 hy1 hy2 rfl (by decide) (.slice (some ⟨B, 0, none⟩) 0 m) 0 [] rfl HO.out ⟨gl, ol + i0, none⟩ bs c4 ((runes b).map (.int .i32)) rfl HBLL.out HNW.out ?g0 ?g1 ?g2 ?g3 ?g4 _ rfl ?_)
          case g0 => exact fun u hu => by obtain ⟨z', _, rfl⟩ := List.mem_map.1 hu; rfl
          case g1 => omega
          case g2 => unfold maxLen; omega
          case g3 => omega
          case g4 => omega
          intro g2 cap2 w6 hown6 hgrow6 _ _
          have hb6 : Below w.heap.size w w6 := HB.out.grown hgrow6 hwz (fun j hj => by have := (hlo j hj).1; omega)
          have HR6 : Hid (RuneRow w6 (some ⟨g2, 0, none⟩) (runes b) ∧ bs ≤ cap2) := by
            have h1 : w6.ownsRow B 21 1 (.slice (some ⟨g2, 0, none⟩) bs cap2) bs ((runes b).map (.int .i32)) := hown6
            exact rune_own h1
          have HB6 := Go.Lib.hid hb6
          have HRC : Hid (Calls Tryd.prog 27 #[pcV pq', .slice (some ⟨g2, 0, none⟩) bs cap2, .int .i64 (bs : Nat), orig] w6 (DoiPost w0 (offs ks b) bs w6)) := by
            have := HREC.out w6 (some ⟨g2, 0, none⟩) cap2 (HB0.out.trans (hb6.mono HB0.out.size)) HR6.out.1 (by rw [← HBS.out]; exact HR6.out.2)
            rwa [← HBS.out] at this
          clear hown6 hgrow6 hb6 hlo
          go_wp2_with fail
          refine HRC.out.mono ?_
          rintro e w7 ⟨v7, ov7, rfl, hq7⟩
          have HQ7 : Hid (StQ w0 w (offs ks b) b.size v7 ov7 w7) := by
            obtain ⟨off, xs, a1, a2, a3, a4, a5⟩ := hq7
            have hge := HB6.out.size
            exact ⟨off, xs, a1, fun h => (a2 h).trans HBS.out, ⟨a3.1, a3.2.imp id fun ⟨g, cap, cur, b1, b2, b3⟩ => ⟨g, cap, cur, b1, by omega, b3⟩⟩, a4, HB6.out.trans (a5.mono hge)⟩
          clear hq7
          go_wp2_with fail
          go_returns
          exact ⟨v7, ov7, rfl, HQ7.out⟩
end Go.Proofs.YtmkefndmiagoaaaDoor
