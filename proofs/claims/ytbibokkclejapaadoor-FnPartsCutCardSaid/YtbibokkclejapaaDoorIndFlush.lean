/- Buffer.Reset, Buffer.WriteTo into an empty buffer of the same block. -/
import Derived.Test.YtbibokkclejapaaDoorIndBig
import Derived.Test.YtbibokkclejapaaDoorIndSw
namespace Go.Proofs.YtbibokkclejapaaDoor
open Go.RowKit
set_option linter.unusedVariables false
set_option linter.unusedSimpArgs false

/-- All but a block stands, and in that all cells but some. -/
structure KS (b : Nat) (S : Nat → Prop) (w w' : World) : Prop where
  os : w'.os = w.os
  tape : w'.tape = w.tape
  output : w'.output = w.output
  size : w.heap.size ≤ w'.heap.size
  rest : ∀ k, k < w.heap.size → k ≠ b → w'.heap[k]? = w.heap[k]?
  cells : ∀ o, ¬ S o → w'.cell? ⟨b, o, none⟩ = w.cell? ⟨b, o, none⟩
  fz : ∀ j, w'.frozen? ⟨b, j, none⟩ = w.frozen? ⟨b, j, none⟩
theorem KS.refl (b : Nat) (S : Nat → Prop) (w : World) : KS b S w w := ⟨rfl, rfl, rfl, Nat.le_refl _, fun _ _ _ => rfl, fun _ _ => rfl, fun _ => rfl⟩
theorem KS.trans {b : Nat} {S : Nat → Prop} {a c d : World} (h : KS b S a c) (k : KS b S c d) : KS b S a d :=
  ⟨k.os.trans h.os, k.tape.trans h.tape, k.output.trans h.output, Nat.le_trans h.size k.size, fun i hi hn => (k.rest i (Nat.lt_of_lt_of_le hi h.size) hn).trans (h.rest i hi hn), fun o ho => (k.cells o ho).trans (h.cells o ho), fun j => (k.fz j).trans (h.fz j)⟩
theorem KS.of {b : Nat} {S : Nat → Prop} {w w' : World} (h : Below w.heap.size w w') (hb : b < w.heap.size) : KS b S w w' :=
  ⟨h.os, h.tape, h.output, h.size, fun k hk _ => h.block k hk, fun o _ => h.cell (p := ⟨b, o, none⟩) hb, fun j => h.frozen (p := ⟨b, j, none⟩) hb⟩
theorem KS.one {b : Nat} {S : Nat → Prop} (w : World) (o : Nat) (u : Value) (ho : S o) : KS b S w (w.setCell ⟨b, o, none⟩ u) :=
  ⟨rfl, rfl, rfl, by simp [World.setCell], fun k _ hn => Below.heap_setCell _ _ _ _ hn, fun p hp => World.cell?_setCell_other _ _ _ _ (by intro e; injection e with _ e2; exact hp (by first | rwa [← e2] | rwa [e2])), fun j => World.frozen?_setCell _ _ _ _⟩
theorem KS.kept {b q : Nat} {S : Nat → Prop} {w w' : World} (h : KeptB b q w w') (hS : S q) : KS b S w w' :=
  ⟨h.os, h.tape, h.output, h.size, h.rest, fun o ho => h.cells o (fun e => ho (by rwa [e])), h.fz⟩
theorem KS.below {b B : Nat} {S : Nat → Prop} {w w' : World} (h : KS b S w w') (hB : B ≤ b) (hz : b < w.heap.size) : Below B w w' :=
  ⟨h.os, h.tape, h.output, h.size, fun k hk => h.rest k (by omega) (by omega)⟩
theorem BA.ks {w w' : World} {b q : Nat} {S : Nat → Prop} {A : Option Addr} {cap : Nat} {l : List UInt8} (h : BA w b q A cap l) (hk : KS b S w w') (h0 : ¬ S q) (h1 : ¬ S (q + 1)) (h2 : ¬ S (q + 2)) : BA w' b q A cap l := by
  obtain ⟨lr, c2⟩ := h.c2
  exact ⟨(hk.cells _ h0).trans h.c0, (hk.cells _ h1).trans h.c1, ⟨lr, (hk.cells _ h2).trans c2⟩, fun j => (hk.fz j).trans (h.f j), h.row.kept hk.rest⟩

theorem buf_reset (b q m cap : Nat) (A : Option Addr) (o r : Int) (w : World) (c0 : w.cell? ⟨b, q, none⟩ = some (.slice A m cap)) (c1 : w.cell? ⟨b, q + 1, none⟩ = some (.int .i64 o)) (c2 : w.cell? ⟨b, q + 2, none⟩ = some (.int .i8 r)) (f : ∀ j, w.frozen? ⟨b, j, none⟩ = false) :
    Calls Tryd.prog 68 #[.pointer (some ⟨b, q, none⟩)] w fun e w' => e = .returned (.tuple #[]) ∧ w' = ((w.setCell ⟨b, q, none⟩ (.slice A 0 cap)).setCell ⟨b, q + 1, none⟩ (.int .i64 0)).setCell ⟨b, q + 2, none⟩ (.int .i8 0) := by
  have hz := lt_of_cell c0
  have hup := upto_run A m cap 0 0 rfl (Nat.zero_le _)
  have f0 := f q
  have f1 := f (q + 1)
  have f2 := f (q + 2)
  have k1 : (w.setCell ⟨b, q, none⟩ (.slice A 0 cap)).cell? ⟨b, q + 1, none⟩ = some (.int .i64 o) := (World.cell?_setCell_other _ _ _ _ (by intro e; injection e with _ e2; omega)).trans c1
  have k2 : ((w.setCell ⟨b, q, none⟩ (.slice A 0 cap)).setCell ⟨b, q + 1, none⟩ (.int .i64 0)).cell? ⟨b, q + 2, none⟩ = some (.int .i8 r) := (World.cell?_setCell_other _ _ _ _ (by intro e; injection e with _ e2; omega)).trans ((World.cell?_setCell_other _ _ _ _ (by intro e; injection e with _ e2; omega)).trans c2)
  clear f
  go_enter Tryd.func68, Tryd.ntmps68
  go_wp2_with fail
  go_returns
  exact ⟨rfl, rfl⟩

/-- Many bytes into an empty buffer. -/
theorem buf_fill (b q c : Nat) (l : List UInt8) (a : Addr) (S : Nat → Prop) (w : World) (h : BA w b q none 0 []) (h1 : 1 ≤ l.length) (hl : l.length ≤ 900000) (hS0 : S q) (hS2 : S (q + 2)) (hab : a.block ≠ b) (haz : a.block < w.heap.size) (ha : ∀ j (hj : j < l.length), w.cell? (a.add j) = some (.int .u8 (l[j].toNat : Nat))) :
    Calls Tryd.prog 69 #[.pointer (some ⟨b, q, none⟩), .slice (some a) l.length c] w fun e w' => e = .returned (.tuple #[.int .i64 (l.length : Nat), .nilIface]) ∧ (∃ A' cap', BA w' b q A' cap' l) ∧ KS b S w w' := by
  obtain ⟨lr, c2⟩ := h.c2
  have hlen : (Lib.byteCells l).length = l.length := by simp [Lib.byteCells]
  refine (write_many b q l.length c (Lib.byteCells l) a lr w hlen h.c0 h.c1 c2 h.f h1 (by omega) hab haz (fun j v hv => ?_) (fun v hv => ?_)).mono ?_
  · obtain ⟨hj, e⟩ := List.getElem?_eq_some_iff.1 hv
    rw [hlen] at hj
    rw [ha j hj, ← e]
    simp [Lib.byteCells]
  · simp [Lib.byteCells] at hv
    obtain ⟨x, _, rfl⟩ := hv
    rfl
  · rintro e w' ⟨g, cap, cur, rfl, p0, pg, ps, pr, pm, pt, pgb, pge, pk⟩
    rw [hlen] at p0 pr pt
    have hK : KS b S w w' := (KS.one w (q + 2) _ hS2).trans (.kept pk hS0)
    have k1 : w'.cell? ⟨b, q + 1, none⟩ = some (.int .i64 0) := (pk.cells _ (by omega)).trans ((World.cell?_setCell_other _ _ _ _ (by intro e; injection e with _ e2; omega)).trans h.c1)
    have k2 : w'.cell? ⟨b, q + 2, none⟩ = some (.int .i8 0) := (pk.cells _ (by omega)).trans (World.cell?_setCell_same' _ _ _ (by rw [c2]; rfl))
    exact ⟨by rw [hlen], ⟨some ⟨g, 0, none⟩, cap, p0, k1, ⟨0, k2⟩, fun j => (hK.fz j).trans (h.f j), .inr ⟨g, cur, rfl, pg, ps, pr, pm, pt, pgb⟩⟩, hK⟩

def ToPost (b q q' : Nat) (l : List UInt8) (w : World) (e : Ending) (w' : World) : Prop :=
  e = .returned (.tuple #[.int .i64 (l.length : Nat), .nilIface]) ∧ (∃ A' cap', BA w' b q' A' cap' l) ∧ KS b (fun o => o = q ∨ o = q + 1 ∨ o = q + 2 ∨ o = q' ∨ o = q' + 2) w w'
set_option maxRecDepth 100000 in
set_option maxHeartbeats 1000000 in
theorem write_to (b q q' : Nat) (A : Option Addr) (cap : Nat) (l : List UInt8) (w : World) (h : BA w b q A cap l) (h' : BA w b q' none 0 []) (hd : q + 3 ≤ q') (hl : l.length ≤ 900000) :
    Calls Tryd.prog 71 #[.pointer (some ⟨b, q, none⟩), .iface 58 (.pointer (some ⟨b, q', none⟩))] w (ToPost b q q' l w) := by
  obtain ⟨lr, c2⟩ := h.c2
  have hz := lt_of_cell h.c0
  have f2 := h.f (q + 2)
  obtain ⟨S, hS⟩ : ∃ S : Nat → Prop, S = fun o => o = q ∨ o = q + 1 ∨ o = q + 2 ∨ o = q' ∨ o = q' + 2 := ⟨_, rfl⟩
  have hpost : ToPost b q q' l w = fun e w' => e = .returned (.tuple #[.int .i64 (l.length : Nat), .nilIface]) ∧ (∃ A' cap', BA w' b q' A' cap' l) ∧ KS b S w w' := by rw [hS]; rfl
  rw [hpost]
  have s0 : S q := by rw [hS]; exact .inl rfl
  have s1 : S (q + 1) := by rw [hS]; exact .inr (.inl rfl)
  have s2 : S (q + 2) := by rw [hS]; exact .inr (.inr (.inl rfl))
  have s3 : S q' := by rw [hS]; exact .inr (.inr (.inr (.inl rfl)))
  have s4 : S (q' + 2) := by rw [hS]; exact .inr (.inr (.inr (.inr rfl)))
  have HS := Go.Lib.hid (And.intro s0 (And.intro s1 (And.intro s2 (And.intro s3 s4))))
  -- the first store
  have hK1 : KS b S w (w.setCell ⟨b, q + 2, none⟩ (.int .i8 0)) := .one w _ _ s2
  have c2' : (w.setCell ⟨b, q + 2, none⟩ (.int .i8 0)).cell? ⟨b, q + 2, none⟩ = some (.int .i8 0) := World.cell?_setCell_same' _ _ _ (by rw [c2]; rfl)
  have hset : ∀ o, o ≠ q + 2 → (w.setCell ⟨b, q + 2, none⟩ (.int .i8 0)).cell? ⟨b, o, none⟩ = w.cell? ⟨b, o, none⟩ := fun o ho => World.cell?_setCell_other _ _ _ _ (by intro e; injection e with _ e2; omega)
  have hB1 : BA (w.setCell ⟨b, q + 2, none⟩ (.int .i8 0)) b q A cap l := ⟨(hset _ (by omega)).trans h.c0, (hset _ (by omega)).trans h.c1, ⟨0, c2'⟩, fun j => (World.frozen?_setCell _ _ _ _).trans (h.f j), h.row.kept fun k _ hk => Below.heap_setCell _ _ _ _ (by exact hk)⟩
  have hB2 : BA (w.setCell ⟨b, q + 2, none⟩ (.int .i8 0)) b q' none 0 [] := h'.set (by omega) (by omega) (by omega)
  have hHL : Hid (∀ W : World, BA W b q A cap l → Calls Tryd.prog 80 #[.pointer (some ⟨b, q, none⟩)] W fun e w' => e = .returned (.int .i64 (l.length : Nat)) ∧ ∃ n, w' = W.drewN n) := fun W hW => buf_len b q A cap l W hW
  have HLN := Go.Lib.hid (hHL.out _ hB1)
  -- the last step, wherever it begins
  have HEND : Hid (∀ (W : World) (o : Int) (A' : Option Addr) (cap' : Nat), KS b S w W → BA W b q' A' cap' l → W.cell? ⟨b, q, none⟩ = some (.slice A l.length cap) → W.cell? ⟨b, q + 1, none⟩ = some (.int .i64 o) → W.cell? ⟨b, q + 2, none⟩ = some (.int .i8 0) → Calls Tryd.prog 68 #[.pointer (some ⟨b, q, none⟩)] W fun e w' => e = .returned (.tuple #[]) ∧ (∃ A' cap', BA w' b q' A' cap' l) ∧ KS b S w w') := fun W o A' cap' hk hb k0 k1 k2 => by
    refine (buf_reset b q l.length cap A o 0 W k0 k1 k2 (fun j => (hk.fz j).trans (h.f j))).mono ?_
    rintro e w' ⟨rfl, rfl⟩
    exact ⟨rfl, ⟨A', cap', ((hb.set (by omega) (by omega) (by omega)).set (by omega) (by omega) (by omega)).set (by omega) (by omega) (by omega)⟩, ((hk.trans (.one W q _ s0)).trans (.one _ (q + 1) _ s1)).trans (.one _ (q + 2) _ s2)⟩
  obtain ⟨W1, hW1⟩ : ∃ W, W = w.setCell ⟨b, q + 2, none⟩ (.int .i8 0) := ⟨_, rfl⟩
  rw [← hW1] at hK1 c2' hB1 hB2 HLN
  have HW1 := Go.Lib.hid (And.intro hK1 (And.intro c2' (And.intro hB1 hB2)))
  have hw1 : w.setCell ⟨b, q + 2, none⟩ (.int .i8 0) = W1 := hW1.symm
  have HH := Go.Lib.hid h
  by_cases h0 : l = []
  · subst h0
    clear h h' hS hpost s0 s1 s2 s3 s4 hK1 c2' hset hB1 hB2 hW1
    go_enter Tryd.func71, Tryd.ntmps71
    go_wp2_with fail
    refine HLN.out.mono ?_
    rintro e w2 ⟨rfl, nq, hw2⟩
    have b2 : Below W1.heap.size W1 w2 := by rw [hw2]; exact below_drewN (Below.refl _ _) nq
    have HX : Hid (KS b S w w2 ∧ BA w2 b q A cap [] ∧ BA w2 b q' none 0 []) := ⟨HW1.out.1.trans (.of b2 (lt_of_cell HW1.out.2.2.1.c0)), HW1.out.2.2.1.below b2, HW1.out.2.2.2.below b2⟩
    have HR := Go.Lib.hid (HEND.out w2 0 none 0 HX.out.1 HX.out.2.2 HX.out.2.1.c0 HX.out.2.1.c1 ((b2.cell (p := ⟨b, q + 2, none⟩) (lt_of_cell HW1.out.2.2.1.c0)).trans HW1.out.2.1))
    clear b2 hw2 hw1
    go_wp2_with fail
    refine HR.out.mono ?_
    rintro e w3 ⟨rfl, hb3, hk3⟩
    have H3 := Go.Lib.hid (And.intro hb3 hk3)
    clear hb3 hk3
    go_wp2_with fail
    go_returns
    exact ⟨rfl, H3.out.1, H3.out.2⟩
  · rcases h.row with ⟨_, _, e⟩ | ⟨g, cur, rfl, hg, h1, h2, h3, h4, hgb⟩
    · exact absurd e h0
    have hpos : 1 ≤ l.length := by
      have : l.length ≠ 0 := fun e => h0 (List.length_eq_zero_iff.1 e)
      omega
    obtain ⟨m, hm⟩ : ∃ m, m = l.length := ⟨_, rfl⟩
    have HM := Go.Lib.hid hm
    have HFILL : Hid (∀ W : World, Below W1.heap.size W1 W → Calls Tryd.prog 69 #[.pointer (some ⟨b, q', none⟩), .slice (some ⟨g, 0, none⟩) m cap] W fun e w' => e = .returned (.tuple #[.int .i64 (m : Nat), .nilIface]) ∧ (∃ A' cap', BA w' b q' A' cap' l) ∧ KS b S w w' ∧ w'.cell? ⟨b, q, none⟩ = some (.slice (some ⟨g, 0, none⟩) m cap) ∧ w'.cell? ⟨b, q + 1, none⟩ = some (.int .i64 0) ∧ w'.cell? ⟨b, q + 2, none⟩ = some (.int .i8 0) ∧ (∀ j, w'.frozen? ⟨b, j, none⟩ = false)) := fun W hW => by
      have k1 := hB1.below hW
      have k2 := hB2.below hW
      have hgz := (Array.getElem?_eq_some_iff.1 hg).1
      have hgW : W.heap[g]? = some (.cells cur 5 (0, 0)) := by
        have e1 : W1.heap[g]? = w.heap[g]? := by rw [hW1]; exact Below.heap_setCell _ _ _ _ (by exact hgb)
        have e2 : g < W1.heap.size := by rw [hW1]; simpa [World.setCell] using hgz
        rw [hW.block g e2, e1, hg]
      have hz1 := lt_of_cell hB1.c0
      have hkw : KS b S w W := hK1.trans (.of hW hz1)
      rw [hm]
      refine (buf_fill b q' cap l ⟨g, 0, none⟩ (fun o => o = q' ∨ o = q' + 2) W k2 hpos hl (.inl rfl) (.inr rfl) hgb (Array.getElem?_eq_some_iff.1 hgW).1 (fun j hj => ?_)).mono ?_
      · have e : (⟨g, 0, none⟩ : Addr).add j = ⟨g, j, none⟩ := by
          unfold Addr.add
          by_cases e : j = 0
          · rw [if_pos e, e]
          · rw [if_neg e, Nat.zero_add]
        rw [e, World.cell?, hgW]
        show cur[j]? = _
        have e3 : (cur.toList.take l.length)[j]? = (Lib.byteCells l)[j]? := by rw [h4]
        rw [List.getElem?_take_of_lt hj, Array.getElem?_toList] at e3
        rw [e3]
        simp [Lib.byteCells, hj]
      · rintro e w' ⟨rfl, hb', hk'⟩
        have hk2 : KS b S W w' := ⟨hk'.os, hk'.tape, hk'.output, hk'.size, hk'.rest, fun o ho => hk'.cells o (by rintro (rfl | rfl); exact ho s3; exact ho s4), hk'.fz⟩
        exact ⟨rfl, hb', hkw.trans hk2, (hk'.cells q (by omega)).trans k1.c0, (hk'.cells _ (by omega)).trans k1.c1, (hk'.cells _ (by omega)).trans ((hW.cell (p := ⟨b, q + 2, none⟩) hz1).trans c2'), fun j => (hk'.fz j).trans (k1.f j)⟩
    have hwh := whole_run g m cap
    have hna : ∀ W, (nilAhead 225 58 (.pointer (some ⟨b, q', none⟩)) "Write").run Tryd.prog W = .ok (some false) W := fun W => by kernel_rfl
    have hm1 : (0 : Int) < m := by omega
    have hm2 : m ≤ 900000 := by omega
    rw [← hm] at HLN hHL HEND
    rw [← hm]
    clear h h' hS hpost s0 s1 s2 s3 s4 hset h0 hg h1 h2 h3 h4 hpos
    clear hK1 c2' hB1 hB2 hW1 hHL hl hm
    go_enter Tryd.func71, Tryd.ntmps71
    go_wp2_with fail
    refine HLN.out.mono ?_
    rintro e w2 ⟨rfl, nq, hw2⟩
    have b2 : Below W1.heap.size W1 w2 := by rw [hw2]; exact below_drewN (Below.refl _ _) nq
    have B2 := Go.Lib.hid b2
    have HB2 := Go.Lib.hid (HW1.out.2.2.1.below b2)
    have d0 := HB2.out.c0
    have d1 := HB2.out.c1
    rw [← HM.out] at d0
    clear b2 hw2 hw1
    have B3 : Hid (Below W1.heap.size W1 w2.drew) := B2.out.trans (Below.refl _ _).drew
    go_wp2_with fail
    refine region_held_tail 18 (S := (fun w' => w'.cell? ⟨b, q, none⟩ = some (.slice (some ⟨g, 0, none⟩) m cap) ∧ w'.cell? ⟨b, q + 1, none⟩ = some (.int .i64 0))) (by kernel_rfl) (by kernel_rfl) ?_ (fun hHeld => ?_)
    · (try dsimp only); first | done | (first | exact ⟨d0, d1⟩ | exact ⟨e0, e1⟩)
    refine HeldT.take (i := 0) (v := ?_) (by simp only [List.getElem?_toArray, List.getElem?_cons_succ, List.getElem?_cons_zero]; rfl) (by kernel_rfl) (by kernel_rfl) (by kernel_rfl) (by kernel_rfl) (by exact fun _ _ _ h => h) ?_ (by assumption) ?_
    rotate_left
    · refine Or.inl ⟨by rfl, ?_⟩
      (intro w hSw; (try dsimp only at hSw); go_simp; try with_reducible rfl)
    try simp only [Act.put, List.setIfInBounds_toArray, List.set_cons_zero, List.set_cons_succ]
    refine HeldT.take (i := 1) (v := ?_) (by simp only [List.getElem?_toArray, List.getElem?_cons_succ, List.getElem?_cons_zero]; rfl) (by kernel_rfl) (by kernel_rfl) (by kernel_rfl) (by kernel_rfl) (by exact fun _ _ _ h => h) ?_ (by assumption) ?_
    rotate_left
    · refine Or.inl ⟨by rfl, ?_⟩
      (intro w hSw; (try dsimp only at hSw); go_simp; try with_reducible rfl)
    try simp only [Act.put, List.setIfInBounds_toArray, List.set_cons_zero, List.set_cons_succ]
    refine HeldT.take (i := 2) (v := ?_) (by simp only [List.getElem?_toArray, List.getElem?_cons_succ, List.getElem?_cons_zero]; rfl) (by kernel_rfl) (by kernel_rfl) (by kernel_rfl) (by kernel_rfl) (by exact fun _ _ _ h => h) ?_ (by assumption) ?_
    rotate_left
    · refine Or.inl ⟨by rfl, ?_⟩
      (intro w hSw; (try dsimp only at hSw); go_simp; try with_reducible rfl)
    try simp only [Act.put, List.setIfInBounds_toArray, List.set_cons_zero, List.set_cons_succ]
    refine HeldT.take (i := 3) (v := ?_) (by simp only [List.getElem?_toArray, List.getElem?_cons_succ, List.getElem?_cons_zero]; rfl) (by kernel_rfl) (by kernel_rfl) (by kernel_rfl) (by kernel_rfl) (by exact fun _ _ _ h => h) ?_ (by assumption) ?_
    rotate_left
    · refine Or.inl ⟨by rfl, ?_⟩
      (intro w hSw; (try dsimp only at hSw); go_simp; try with_reducible rfl)
    try simp only [Act.put, List.setIfInBounds_toArray, List.set_cons_zero, List.set_cons_succ]
    refine HeldT.take (i := 4) (v := ?_) (by simp only [List.getElem?_toArray, List.getElem?_cons_succ, List.getElem?_cons_zero]; rfl) (by kernel_rfl) (by kernel_rfl) (by kernel_rfl) (by kernel_rfl) (by exact fun _ _ _ h => h) ?_ (by assumption) ?_
    rotate_left
    · refine Or.inl ⟨by rfl, ?_⟩
      (intro w hSw; (try dsimp only at hSw); go_simp; try with_reducible rfl)
    try simp only [Act.put, List.setIfInBounds_toArray, List.set_cons_zero, List.set_cons_succ]
    refine HeldT.take (i := 5) (v := ?_) (by simp only [List.getElem?_toArray, List.getElem?_cons_succ, List.getElem?_cons_zero]; rfl) (by kernel_rfl) (by kernel_rfl) (by kernel_rfl) (by kernel_rfl) (by exact fun _ _ _ h => h) ?_ (by assumption) ?_
    rotate_left
    · refine Or.inl ⟨by rfl, ?_⟩
      (intro w hSw; (try dsimp only at hSw); go_simp; try with_reducible rfl)
    try simp only [Act.put, List.setIfInBounds_toArray, List.set_cons_zero, List.set_cons_succ]
    refine HeldT.take (i := 6) (v := ?_) (by simp only [List.getElem?_toArray, List.getElem?_cons_succ, List.getElem?_cons_zero]; rfl) (by kernel_rfl) (by kernel_rfl) (by kernel_rfl) (by kernel_rfl) (by exact fun _ _ _ h => h) ?_ (by assumption) ?_
    rotate_left
    · refine Or.inl ⟨by rfl, ?_⟩
      (intro w hSw; (try dsimp only at hSw); go_simp; try with_reducible rfl)
    try simp only [Act.put, List.setIfInBounds_toArray, List.set_cons_zero, List.set_cons_succ]
    refine HeldT.take (i := 7) (v := ?_) (by simp only [List.getElem?_toArray, List.getElem?_cons_succ, List.getElem?_cons_zero]; rfl) (by kernel_rfl) (by kernel_rfl) (by kernel_rfl) (by kernel_rfl) (by exact fun _ _ _ h => h) ?_ (by assumption) ?_
    rotate_left
    · refine Or.inl ⟨by rfl, ?_⟩
      (intro w hSw; (try dsimp only at hSw); go_simp; try with_reducible rfl)
    try simp only [Act.put, List.setIfInBounds_toArray, List.set_cons_zero, List.set_cons_succ]
    refine HeldT.take (i := 8) (v := ?_) (by simp only [List.getElem?_toArray, List.getElem?_cons_succ, List.getElem?_cons_zero]; rfl) (by kernel_rfl) (by kernel_rfl) (by kernel_rfl) (by kernel_rfl) (by exact fun _ _ _ h => h) ?_ (by assumption) ?_
    rotate_left
    · refine Or.inl ⟨by rfl, ?_⟩
      (intro w hSw; (try dsimp only at hSw); go_simp; try with_reducible rfl)
    try simp only [Act.put, List.setIfInBounds_toArray, List.set_cons_zero, List.set_cons_succ]
    refine HeldT.take (i := 9) (v := ?_) (by simp only [List.getElem?_toArray, List.getElem?_cons_succ, List.getElem?_cons_zero]; rfl) (by kernel_rfl) (by kernel_rfl) (by kernel_rfl) (by kernel_rfl) (by exact fun _ _ _ h => h) ?_ (by assumption) ?_
    rotate_left
    · refine Or.inl ⟨by rfl, ?_⟩
      (intro w hSw; (try dsimp only at hSw); go_simp; try with_reducible rfl)
    try simp only [Act.put, List.setIfInBounds_toArray, List.set_cons_zero, List.set_cons_succ]
    refine HeldT.take (i := 10) (v := ?_) (by simp only [List.getElem?_toArray, List.getElem?_cons_succ, List.getElem?_cons_zero]; rfl) (by kernel_rfl) (by kernel_rfl) (by kernel_rfl) (by kernel_rfl) (by exact fun _ _ _ h => h) ?_ (by assumption) ?_
    rotate_left
    · refine Or.inl ⟨by rfl, ?_⟩
      (intro w hSw; (try dsimp only at hSw); go_simp; try with_reducible rfl)
    try simp only [Act.put, List.setIfInBounds_toArray, List.set_cons_zero, List.set_cons_succ]
    refine HeldT.take (i := 11) (v := ?_) (by simp only [List.getElem?_toArray, List.getElem?_cons_succ, List.getElem?_cons_zero]; rfl) (by kernel_rfl) (by kernel_rfl) (by kernel_rfl) (by kernel_rfl) (by exact fun _ _ _ h => h) ?_ (by assumption) ?_
    rotate_left
    · refine Or.inl ⟨by rfl, ?_⟩
      (intro w hSw; (try dsimp only at hSw); go_simp; try with_reducible rfl)
    try simp only [Act.put, List.setIfInBounds_toArray, List.set_cons_zero, List.set_cons_succ]
    refine HeldT.take (i := 12) (v := ?_) (by simp only [List.getElem?_toArray, List.getElem?_cons_succ, List.getElem?_cons_zero]; rfl) (by kernel_rfl) (by kernel_rfl) (by kernel_rfl) (by kernel_rfl) (by exact fun _ _ _ h => h) ?_ (by assumption) ?_
    rotate_left
    · refine Or.inl ⟨by rfl, ?_⟩
      (intro w hSw; (try dsimp only at hSw); go_simp; try with_reducible rfl)
    try simp only [Act.put, List.setIfInBounds_toArray, List.set_cons_zero, List.set_cons_succ]
    refine HeldT.one (i := 13) (by simp only [List.getElem?_toArray, List.getElem?_cons_succ, List.getElem?_cons_zero]; rfl) (by kernel_rfl) (by kernel_rfl) (fun K hK => ?_)
    go_simp
    ((refine (HFILL.out _ B3.out).mono ?_); rintro e w3 ⟨rfl, hb3, hk3, e0, e1, e2, ef⟩; have H3 := Go.Lib.hid (And.intro hb3 (And.intro hk3 (And.intro e0 (And.intro e2 ef)))); have ef1 := ef (q + 1); clear hb3 hk3 e2 ef)
    try go_wp2_with fail
    refine hK.out _ _ ?_ (fun hHeld => ?_)
    · (try dsimp only); first | done | (first | exact ⟨d0, d1⟩ | exact ⟨e0, e1⟩)
    clear hK K
    try simp only [Act.put, List.setIfInBounds_toArray, List.set_cons_zero, List.set_cons_succ]
    refine HeldT.take (i := 14) (v := ?_) (by simp only [List.getElem?_toArray, List.getElem?_cons_succ, List.getElem?_cons_zero]; rfl) (by kernel_rfl) (by kernel_rfl) (by kernel_rfl) (by kernel_rfl) (by exact fun _ _ _ h => h) ?_ (by assumption) ?_
    rotate_left
    · refine Or.inl ⟨by rfl, ?_⟩
      (intro w hSw; (try dsimp only at hSw); go_simp; try with_reducible rfl)
    try simp only [Act.put, List.setIfInBounds_toArray, List.set_cons_zero, List.set_cons_succ]
    refine HeldT.take (i := 15) (v := ?_) (by simp only [List.getElem?_toArray, List.getElem?_cons_succ, List.getElem?_cons_zero]; rfl) (by kernel_rfl) (by kernel_rfl) (by kernel_rfl) (by kernel_rfl) (by exact fun _ _ _ h => h) ?_ (by assumption) ?_
    rotate_left
    · refine Or.inl ⟨by rfl, ?_⟩
      (intro w hSw; (try dsimp only at hSw); go_simp; try with_reducible rfl)
    try simp only [Act.put, List.setIfInBounds_toArray, List.set_cons_zero, List.set_cons_succ]
    refine HeldT.take (i := 16) (v := ?_) (by simp only [List.getElem?_toArray, List.getElem?_cons_succ, List.getElem?_cons_zero]; rfl) (by kernel_rfl) (by kernel_rfl) (by kernel_rfl) (by kernel_rfl) (by exact fun _ _ _ h => h) ?_ (by assumption) ?_
    rotate_left
    · refine Or.inl ⟨by rfl, ?_⟩
      (intro w hSw; (try dsimp only at hSw); go_simp; try with_reducible rfl)
    try simp only [Act.put, List.setIfInBounds_toArray, List.set_cons_zero, List.set_cons_succ]
    refine HeldT.take (i := 17) (v := ?_) (by simp only [List.getElem?_toArray, List.getElem?_cons_succ, List.getElem?_cons_zero]; rfl) (by kernel_rfl) (by kernel_rfl) (by kernel_rfl) (by kernel_rfl) (by exact fun _ _ _ h => h) ?_ (by assumption) ?_
    rotate_left
    · refine Or.inl ⟨by rfl, ?_⟩
      (intro w hSw; (try dsimp only at hSw); go_simp; try with_reducible rfl)
    try simp only [Act.put, List.setIfInBounds_toArray, List.set_cons_zero, List.set_cons_succ]
    refine HeldT.tail (by kernel_rfl) rfl ?_
    have HE : Hid (Calls Tryd.prog 68 #[.pointer (some ⟨b, q, none⟩)] (w3.setCell ⟨b, q + 1, none⟩ (.int .i64 (m : Nat))) fun e w' => e = .returned (.tuple #[]) ∧ (∃ A' cap', BA w' b q' A' cap' l) ∧ KS b S w w') := by
      obtain ⟨⟨A3, cap3, hb3⟩, hk3, k0, k2, kf⟩ := H3.out
      refine Go.Lib.hid (HEND.out _ (m : Nat) A3 cap3 (hk3.trans (.one w3 _ _ HS.out.2.1)) (hb3.set (by omega) (by omega) (by omega)) ?_ ?_ ?_)
      · exact (World.cell?_setCell_other _ _ _ _ (by intro e; injection e with _ e2; omega)).trans k0
      · exact World.cell?_setCell_same' _ _ _ (by rw [e1]; rfl)
      · exact (World.cell?_setCell_other _ _ _ _ (by intro e; injection e with _ e2; omega)).trans k2
    go_wp2_with fail
    refine HE.out.mono ?_
    rintro e w4 ⟨rfl, hb4, hk4⟩
    have H4 := Go.Lib.hid (And.intro hb4 hk4)
    clear hb4 hk4
    go_wp2_with fail
    go_returns
    exact ⟨rfl, H4.out.1, H4.out.2⟩
end Go.Proofs.YtbibokkclejapaaDoor
