/- The walk of laws.FnFilterParts. -/
import Derived.Test.YtldlgipailfbnaaDoorFilterKinds
namespace Go.Proofs.YtldlgipailfbnaaDoor
open Go.RowKit
set_option linter.unusedVariables false
set_option linter.unusedSimpArgs false

theorem wpList_append_run {P : Program} {ops : Array Oper} {rest : List Oper} {o : Oper} {a : Act} {w w' : World} {Q : Exit → Act → World → Prop} (hg : o.guard = none) (s x : Operand) (t : TypeId)
    (hop : o.op = .call { callee := .builtin .append, args := #[s, x], argTypes := #[t, t] }) (v1 v2 v : Value) (hs : a.eval s = v1) (hx : a.eval x = v2)
    (hrun : (Builtin.append_ #[t, t] o.type #[v1, v2]).run P w = .ok v w') (h : wpList P ops Q rest (a.put o.dst v) w') : wpList P ops Q (o :: rest) a w :=
  wpList_plain hg fun K hK => by
    unfold Oper.wp
    simp [execOp, hop, resolve, invoke, builtin, hs, hx, hrun, Result.andThen]
    exact hK _ _ h

theorem run_append_of_nil {P : Program} (w : World) (base : Nat) (t ty e : TypeId) (i : TypeInfo) (size : Nat) (ht : P.underlying t = some (.slice e)) (hi : P.info? e = some i)
    (v : Value) (n : Nat) (xs : List Value) (hown : w.ownsRow base e size v n xs) (c : Nat) : (Builtin.append_ #[t, t] ty #[v, .slice none 0 c]).run P w = .ok v w := by
  rcases hown.2 with ⟨rfl, rfl⟩ | ⟨g, cap, cur, rfl, _, _, hnc, _⟩
  · simp [Builtin.append_, run_underlying ht, sizeOf, typeInfo, hi, Builtin.lenOf, Builtin.firstCells]
  · simp [Builtin.append_, run_underlying ht, sizeOf, typeInfo, hi, Builtin.lenOf, Builtin.firstCells, hnc, storeCells]

/-- append of picks, onto picks of the call's own. -/
theorem run_append_pks (w : World) (base : Nat) (A : Option Addr) (cap : Nat) (l : List Pk) (hr : w.ownsRow base 29 2 (.slice A l.length cap) l.length (pkCells l)) (B : Option Addr) (c : Nat) (xs : List Pk) (hs : IsPks w B xs) (hb : base ≤ w.heap.size) (hlen : l.length + xs.length ≤ 1000) :
    ∃ A' cap' w', (Builtin.append_ #[22, 22] 22 #[.slice A l.length cap, .slice B xs.length c]).run Tryd.prog w = .ok (.slice A' (l ++ xs).length cap') w' ∧ w'.ownsRow base 29 2 (.slice A' (l ++ xs).length cap') (l ++ xs).length (pkCells (l ++ xs)) ∧ Below base w w' := by
  obtain ⟨ib, hib, hz0, hz1, hz2⟩ := info_parts (show (Tryd.prog.info? 29).map (fun i => (i.zero, i.size, i.bytes)) = some (some (.agg #[.string ⟨#[]⟩, .string ⟨#[]⟩]), 2, 32) by kernel_rfl)
  have hgr : ∀ w', w.grownBy w' (Value.ownBlock (.slice A l.length cap)) → Below base w w' := fun w' h => (Below.refl base w).grown h hb fun k hk => (hr.lt k hk).1
  rcases hs with rfl | ⟨b, off, rfl, hbl, hc⟩
  · rcases B with _ | ad
    · have h1 := run_append_of_nil (P := Tryd.prog) w base 22 22 29 ib 2 Tryd.underlying22 hib _ _ _ hr c
      refine ⟨A, cap, w, ?_, by rw [List.append_nil]; exact hr, Below.refl _ _⟩
      rw [List.append_nil]; exact h1
    · obtain ⟨v', w', h1, h2, h3, _, h5⟩ := run_append_own_at (P := Tryd.prog) w base 22 22 29 ib (.agg #[.string ⟨#[]⟩, .string ⟨#[]⟩]) 2 32 Tryd.underlying22 hib hz0 hz1 hz2 rfl (by decide) _ _ _ hr ad 0 c [] rfl (by simp) (by simp) (by unfold maxLen; omega) (by omega) hb
      rw [List.append_nil, Nat.add_zero] at h2
      obtain ⟨va, vc, rfl⟩ : ∃ va vc, v' = .slice va l.length vc := by
        rcases h2.2 with ⟨h, h0⟩ | ⟨g, cp, cur, h, _⟩
        · exact ⟨none, 0, by rw [h, h0]⟩
        · exact ⟨_, _, h⟩
      refine ⟨va, vc, w', ?_, ?_, hgr _ h3⟩
      · rw [List.append_nil]; exact h1
      · rw [List.append_nil]; exact h2
  · have hsrc : PkSrc w (some ⟨b, off, none⟩) xs := IsPks.src (.inr ⟨b, off, rfl, hbl, hc⟩)
    have hcells : ∀ (j : Nat) (u : Value), (pkCells xs)[j]? = some u → w.cell? ((⟨b, off, none⟩ : Addr).add j) = some u := by
      rcases hsrc with rfl | ⟨ad, h1, h2⟩
      · intro j u hu; simp [pkCells] at hu
      · cases h1; exact h2
    obtain ⟨v', w', h1, h2, h3, _, h5⟩ := run_append_own_at (P := Tryd.prog) w base 22 22 29 ib (.agg #[.string ⟨#[]⟩, .string ⟨#[]⟩]) 2 32 Tryd.underlying22 hib hz0 hz1 hz2 rfl (by decide) _ _ _ hr ⟨b, off, none⟩ xs.length c (pkCells xs) (pkCells_len xs) hcells (pks_one _) (by unfold maxLen; omega) (by omega) hb
    rw [← pkCells_append] at h2
    have hl : (l ++ xs).length = l.length + xs.length := by simp
    rw [← hl] at h2
    obtain ⟨va, vc, rfl⟩ : ∃ va vc, v' = .slice va (l ++ xs).length vc := by
      rcases h2.2 with ⟨h, h0⟩ | ⟨g, cp, cur, h, _⟩
      · exact ⟨none, 0, by rw [h, h0]⟩
      · exact ⟨_, _, h⟩
    exact ⟨va, vc, w', h1, h2, hgr _ h3⟩

theorem some_kind (kind : Int) (h0 : 0 ≤ kind) : ∃ (q : Int) (f : Asks), kind % 4 = q ∧ 0 ≤ q ∧ q ≤ 3 ∧ SomeFiltered (1 + q) f ∧ ∀ s, f s s = true := by
  have : kind % 4 = 0 ∨ kind % 4 = 1 ∨ kind % 4 = 2 ∨ kind % 4 = 3 := by omega
  rcases this with h | h | h | h
  · exact ⟨0, preA, h, by omega, by omega, filtered1, fun s => preA_true.2 (List.prefix_refl _)⟩
  · exact ⟨1, sufA, h, by omega, by omega, filtered2, fun s => sufA_true.2 (List.suffix_refl _)⟩
  · exact ⟨2, conA, h, by omega, by omega, filtered3, fun s => conA_true.2 (List.infix_refl _)⟩
  · exact ⟨3, fuzA, h, by omega, by omega, filtered4, fun s => fuzA_true.2 (List.Sublist.refl _)⟩

theorem own_empty (w : World) : (w.alloc (.cells #[] 29)).ownsRow w.heap.size 29 2 (.slice (some ⟨w.heap.size, 0, none⟩) ([] : List Pk).length 0) ([] : List Pk).length (pkCells []) :=
  ⟨rfl, .inr ⟨w.heap.size, 0, #[], rfl, Nat.le_refl _, heap_alloc_new w _, Nat.le_refl _, by decide, rfl, rfl⟩⟩
theorem pks_one_at (w : World) (p : Pk) (t : TypeId) : IsPks (w.alloc (.cells #[.string p.t, .string p.d] t)) (some ⟨w.heap.size, 0, none⟩) [p] := .inr ⟨_, 0, rfl, by simp, fun j hj => by
  obtain rfl : j = 0 := by simp at hj; exact hj
  exact ⟨by simp [go_sem, pkAt], by simp [go_sem, pkAt]⟩⟩

namespace fnFilterParts
set_option maxRecDepth 100000 in
set_option maxHeartbeats 8000000 in
theorem walk (kind : Int) (a : Option Addr) (lena capa : Nat) (ps : List Pk) (b : Option Addr) (lenb capb : Nat) (qs : List Pk) (part : ByteArray) (any : Bool) (w : World) (wk : (Lit.int .u8 kind).wf = true) (w0 : ps.length = lena ∧ IsPks w a ps) (w1 : qs.length = lenb ∧ IsPks w b qs) (hp : part.size ≤ maxLen) {X : Prop} (_hL : X) :
    Calls Tryd.prog 4 #[.int .u8 kind, .slice a lena capa, .slice b lenb capb, .string part, .bool any] w fun e w' => e = .returned (.bool true) ∧ Below w.heap.size w w' := by
  unfold maxLen at hp
  have hkk := Go.bounds_u8 wk
  obtain ⟨hk0, hk1⟩ := hkk
  clear wk
  obtain ⟨rfl, ha⟩ := w0
  obtain ⟨rfl, hb⟩ := w1
  have HA := Go.Lib.hid ha
  have HB := Go.Lib.hid hb
  clear ha hb
  obtain ⟨n, hn⟩ : ∃ n, n = ps.length := ⟨_, rfl⟩
  have Hn := Go.Lib.hid hn
  obtain ⟨m, hm⟩ : ∃ m, m = qs.length := ⟨_, rfl⟩
  have Hm := Go.Lib.hid hm
  rw [← hn, ← hm]
  clear hn hm
  go_enter Tryd.func4, Tryd.ntmps4
  go_wp2_with fail
  rw [Hn.out]
  refine (fits3_any a capa ps w HA.out).mono ?_
  rw [← Hn.out]
  rintro e w1 ⟨b1, rfl, hb, k1⟩
  have HF1 := Go.Lib.hid hb
  have B1 := Go.Lib.hid k1
  have HA1 := Go.Lib.hid (HA.out.below k1)
  have HB1 := Go.Lib.hid (HB.out.below k1)
  clear hb k1
  cases b1
  · go_wp2_with fail
    go_returns
    exact ⟨rfl, B1.out⟩
  go_wp2_with fail
  rw [Hm.out]
  refine (fits3_any b capb qs w1 HB1.out).mono ?_
  rw [← Hm.out]
  rintro e w2 ⟨b1, rfl, hb, k1⟩
  have HF2 := Go.Lib.hid hb
  have B2 : Hid (Below w.heap.size w w2) := B1.out.trans (k1.mono B1.out.size)
  have HA2 := Go.Lib.hid (HA1.out.below k1)
  have HB2 := Go.Lib.hid (HB1.out.below k1)
  clear hb k1 HA1 HB1 HA HB B1
  cases b1
  · go_wp2_with fail
    go_returns
    exact ⟨rfl, B2.out⟩
  by_cases hbig : (2147483647 : Int) < part.size
  · go_wp2_with fail
    go_returns
    exact ⟨rfl, B2.out⟩
  have hd : decide ((2147483647 : Int) < part.size) = false := by simpa using hbig
  go_wp2_with fail
  rw [Hn.out]
  refine (picks7_any a capa ps part w2 HA2.out (HF1.out (by trivial)).1 (HF1.out (by trivial)).2 (by omega)).mono ?_
  rw [← Hn.out]
  rintro e w3 ⟨b1, rfl, hb, rfl⟩
  have HL1 := Go.Lib.hid hb
  clear hb
  cases b1
  · go_wp2_with fail
    go_returns
    exact ⟨rfl, B2.out⟩
  go_wp2_with fail
  rw [Hm.out]
  refine (picks7_any b capb qs part w2 HB2.out (HF2.out (by trivial)).1 (HF2.out (by trivial)).2 (by omega)).mono ?_
  rw [← Hm.out]
  rintro e w3 ⟨b1, rfl, hb, rfl⟩
  have HL2 := Go.Lib.hid hb
  clear hb
  cases b1
  · go_wp2_with fail
    go_returns
    exact ⟨rfl, B2.out⟩
  have FA : Hid (Fine ps) := ⟨by have := (HL1.out (by trivial)).1; omega, (HL1.out (by trivial)).2.1⟩
  have FB : Hid (Fine qs) := ⟨by have := (HL2.out (by trivial)).1; omega, (HL2.out (by trivial)).2.1⟩
  have FAB : Hid (Fine (ps ++ qs)) := ⟨by have := (HL1.out (by trivial)).1; have := (HL2.out (by trivial)).1; simp; omega, fun p hp => (List.mem_append.1 hp).elim (FA.out.2 p) (FB.out.2 p)⟩
  have HPA : Hid (IsAscii part) := (HL1.out (by trivial)).2.2.1
  have hz : part.size ≤ 60 := (HL1.out (by trivial)).2.2.2
  clear HF1 HF2 HL1 HL2 hbig hd
  obtain ⟨q, f, hq, hq0, hq3, hS, hself⟩ := some_kind kind hk0
  have HS := Go.Lib.hid hS
  have HSELF := Go.Lib.hid hself
  have hw1 : IntKind.i64.wrap q = q := IntWalk.i64_in _ (by omega)
  clear hS hself
  -- the two lists, one behind the other
  have hab : Below w2.heap.size w2 (w2.alloc (.cells #[] 29)) := (Below.refl _ _).alloc (Nat.le_refl _) _
  obtain ⟨A1, c1, w3, r1, o1, k1⟩ := run_append_pks (w2.alloc (.cells #[] 29)) w2.heap.size (some ⟨w2.heap.size, 0, none⟩) 0 [] (own_empty w2) a capa ps (HA2.out.below hab) (by simp) (by have := FA.out.1; simp; omega)
  have k1' : Below w2.heap.size w2 w3 := hab.trans k1
  obtain ⟨A2, c2, w4, r2, o2, k2⟩ := run_append_pks w3 w2.heap.size A1 c1 ([] ++ ps) o1 b capb qs (HB2.out.below k1') (by have := k1'.size; omega) (by have := FA.out.1; have := FB.out.1; simp; omega)
  have k2' : Below w2.heap.size w2 w4 := k1'.trans k2
  rw [List.nil_append] at r1 r2 o2
  rw [← Hn.out] at r1 r2
  rw [← Hm.out] at r2
  have PALL := Go.Lib.hid (pks_of_owns o2).2
  have HA4 := Go.Lib.hid (HA2.out.below k2')
  have HB4 := Go.Lib.hid (HB2.out.below k2')
  have B4 : Hid (Below w.heap.size w w4) := B2.out.trans (k2'.mono B2.out.size)
  obtain ⟨nm, hnm⟩ : ∃ nm, nm = (ps ++ qs).length := ⟨_, rfl⟩
  have Hnm := Go.Lib.hid hnm
  rw [← hnm] at r2
  rw [List.length_nil] at r1
  have R1 := Go.Lib.hid r1
  have R2 := Go.Lib.hid r2
  clear r1 r2 o1 o2 k1 k2 k1' k2' hab hnm
  go_wp2_with (at_builtin; first | refine wpList_append_run rfl (.tmp 43) (.tmp 44) 22 rfl _ _ _ rfl rfl R1.out ?_ | refine wpList_append_run rfl (.tmp 45) (.tmp 46) 22 rfl _ _ _ rfl rfl R2.out ?_)
  rw [Hn.out]
  refine (HS.out any a capa ps part w4 HA4.out FA.out HPA.out hz).mono ?_
  rw [← Hn.out]
  rintro e w5 ⟨Ax, cx, rfl, px, k5⟩
  have PX := Go.Lib.hid px
  have HB5 := Go.Lib.hid (HB4.out.below k5)
  have PALL5 := Go.Lib.hid (PALL.out.below k5)
  have B5 : Hid (Below w.heap.size w w5) := B4.out.trans (k5.mono B4.out.size)
  clear px k5 HB4 PALL HA4 HA2 HB2 B2 B4 R1 R2
  obtain ⟨X1, hX1⟩ : ∃ R, R = filt f any part ps := ⟨_, rfl⟩
  obtain ⟨nx, hnx⟩ : ∃ n, n = X1.length := ⟨_, rfl⟩
  rw [← hX1] at PX ⊢
  rw [← hnx]
  have HX1 := Go.Lib.hid hX1
  have Hnx := Go.Lib.hid hnx
  clear hX1 hnx
  go_wp2_with fail
  rw [Hm.out]
  refine (HS.out any b capb qs part w5 HB5.out FB.out HPA.out hz).mono ?_
  rw [← Hm.out]
  rintro e w6 ⟨Ay, cy, rfl, py, k6⟩
  have PY := Go.Lib.hid py
  have PX6 := Go.Lib.hid (PX.out.below k6)
  have PALL6 := Go.Lib.hid (PALL5.out.below k6)
  have B6 : Hid (Below w.heap.size w w6) := B5.out.trans (k6.mono B5.out.size)
  clear py k6 PX PALL5 HB5 B5
  obtain ⟨Y1, hY1⟩ : ∃ R, R = filt f any part qs := ⟨_, rfl⟩
  obtain ⟨ny, hny⟩ : ∃ n, n = Y1.length := ⟨_, rfl⟩
  rw [← hY1] at PY ⊢
  rw [← hny]
  have HY1 := Go.Lib.hid hY1
  have Hny := Go.Lib.hid hny
  clear hY1 hny
  go_wp2_with fail
  have FO : Fine [⟨part, ⟨#[]⟩⟩] := ⟨by simp, fun p hp => by
    obtain rfl : p = ⟨part, ⟨#[]⟩⟩ := by simpa using hp
    exact ⟨HPA.out, hz⟩⟩
  have hb6 : Below w6.heap.size w6 (w6.alloc (.cells #[.string part, .string ⟨#[]⟩] 29)) := (Below.refl _ _).alloc (Nat.le_refl _) _
  refine (HS.out any _ 1 [⟨part, ⟨#[]⟩⟩] part _ (pks_one_at w6 ⟨part, ⟨#[]⟩⟩ 29) FO HPA.out hz).mono ?_
  rintro e w7 ⟨Aw, cw, rfl, pw, k7⟩
  have hone : (filt f any part [⟨part, ⟨#[]⟩⟩]).length = 1 := by
    unfold filt
    split
    · rfl
    · simp [HSELF.out]
  rw [hone]
  have k7' : Below w6.heap.size w6 w7 := hb6.trans (k7.mono (by simp))
  have PX7 := Go.Lib.hid (PX6.out.below k7')
  have PY7 := Go.Lib.hid (PY.out.below k7')
  have PALL7 := Go.Lib.hid (PALL6.out.below k7')
  have B7 : Hid (Below w.heap.size w w7) := B6.out.trans (k7'.mono B6.out.size)
  clear pw k7 k7' hone hb6 FO PX6 PY PALL6 B6
  go_wp2_with fail
  rw [Hnm.out]
  refine (HS.out any A2 c2 (ps ++ qs) part w7 PALL7.out FAB.out HPA.out hz).mono ?_
  rw [← Hnm.out]
  rintro e w8 ⟨Az, cz, rfl, pz, k8⟩
  rw [filt_append, ← HX1.out, ← HY1.out] at pz ⊢
  have PZ := Go.Lib.hid pz
  have PX8 := Go.Lib.hid (PX7.out.below k8)
  have PY8 := Go.Lib.hid (PY7.out.below k8)
  have B8 : Hid (Below w.heap.size w w8) := B7.out.trans (k8.mono B7.out.size)
  clear pz k8 PX7 PY7 PALL7 B7
  obtain ⟨nz, hnz⟩ : ∃ n, n = (X1 ++ Y1).length := ⟨_, rfl⟩
  rw [← hnz]
  have Hnz := Go.Lib.hid hnz
  have lx : X1.length ≤ 40 := by rw [HX1.out]; exact (filt_fine FA.out).1
  have ly : Y1.length ≤ 40 := by rw [HY1.out]; exact (filt_fine FB.out).1
  have hab : Below w8.heap.size w8 (w8.alloc (.cells #[] 29)) := (Below.refl _ _).alloc (Nat.le_refl _) _
  obtain ⟨A3, c3, w9, r1, o1, k1⟩ := run_append_pks (w8.alloc (.cells #[] 29)) w8.heap.size (some ⟨w8.heap.size, 0, none⟩) 0 [] (own_empty w8) Ax cx X1 (PX8.out.below hab) (by simp) (by simp; omega)
  have k1' : Below w8.heap.size w8 w9 := hab.trans k1
  obtain ⟨A4, c4, wA, r2, o2, k2⟩ := run_append_pks w9 w8.heap.size A3 c3 ([] ++ X1) o1 Ay cy Y1 (PY8.out.below k1') (by have := k1'.size; omega) (by simp; omega)
  have k2' : Below w8.heap.size w8 wA := k1'.trans k2
  rw [List.nil_append] at r1 r2 o2
  rw [← Hnx.out] at r1 r2
  rw [← Hny.out] at r2
  rw [← hnz] at r2
  have PB := Go.Lib.hid (pks_of_owns o2).2
  have PZA := Go.Lib.hid (PZ.out.below k2')
  have BA : Hid (Below w.heap.size w wA) := B8.out.trans (k2'.mono B8.out.size)
  rw [List.length_nil] at r1
  have R1 := Go.Lib.hid r1
  have R2 := Go.Lib.hid r2
  have LZ : Hid ((X1 ++ Y1).length ≤ 100) := by rw [Hid, List.length_append]; omega
  clear r1 r2 o1 o2 k1 k2 k1' k2' hab hnz lx ly
  go_wp2_with (at_builtin; first | refine wpList_append_run rfl (.tmp 70) (.tmp 71) 22 rfl _ _ _ rfl rfl R1.out ?_ | refine wpList_append_run rfl (.tmp 72) (.tmp 73) 22 rfl _ _ _ rfl rfl R2.out ?_)
  rw [Hnz.out]
  refine (same7_any Az A4 cz c4 (X1 ++ Y1) wA PZA.out PB.out LZ.out).mono ?_
  rw [← Hnz.out]
  rintro e wB ⟨rfl, kB⟩
  have BB : Hid (Below w.heap.size w wB) := BA.out.trans (kB.mono BA.out.size)
  clear kB
  go_wp2_with fail
  go_returns
  exact ⟨rfl, BB.out⟩
end fnFilterParts
end Go.Proofs.YtldlgipailfbnaaDoor
