/- A script whose step fails: Keyed$1, caught, Keyed, KeyedOnce (its first part printed by wip/gen/mkputsfail.py). -/
import Derived.Test.YtoimdbmjpkmkfaaDoorPutsKeys
import Derived.Test.YtoimdbmjpkmkfaaDoorOneNine
namespace Go.Proofs.YtoimdbmjpkmkfaaDoor
open Go.RowKit
set_option linter.unusedVariables false
set_option linter.unusedSimpArgs false

def FailPost (rb F0 T0 : Nat) (w : World) (e : Ending) (w' : World) : Prop :=
  (∃ u pv, e = .panicked [{ v := .iface u pv, recovered := false }]) ∧ Kept rb [F0, T0] w w' ∧ ∃ v, w'.cell? ⟨T0, 0, none⟩ = some v ∧ w'.frozen? ⟨T0, 0, none⟩ = false

set_option maxRecDepth 100000 in
set_option maxHeartbeats 4000000 in
theorem script_fail (S0 B0 F0 T0 rb b off : Nat) (cap : Nat) (es : List Ky) (p : Nat) (ts l l' kept kept' : List Int) (k k' : Nat) (w : World)
    (hv : Vars4 w S0 B0 F0 T0 rb (some ⟨b, off, none⟩) es.length cap) (hbl : b < rb) (hbx : b ∉ [F0, T0])
    (he : KysAt w b off es)
    (hc : Chain (es.take p) l k kept ts l' k' kept') (hp : p < es.length) (hbad : KeyBad (es[p]'hp) l' k' kept') (hr : Round w F0 T0 rb ts l k kept 0 (.slice none 0 0) w) (hn : es.length ≤ 2147483647) :
    Calls Tryd.prog 22 #[.pointer (some ⟨S0, 0, none⟩), .pointer (some ⟨B0, 0, none⟩), .pointer (some ⟨F0, 0, none⟩), .pointer (some ⟨T0, 0, none⟩)] w (FailPost rb F0 T0 w) := by
  obtain ⟨ib, hib, hz0, hz1, hz2⟩ := info_parts (show (Tryd.prog.info? 3).map (fun i => (i.zero, i.size, i.bytes)) = some (some (.int .i64 0), 1, 8) by kernel_rfl)
  have HV := Go.Lib.hid hv
  have HE := Go.Lib.hid he
  have HBX := Go.Lib.hid hbx
  have HC0 := Go.Lib.hid hc
  have HR0 := Go.Lib.hid hr
  have hlp : (es.take p).length = p := by simp; omega
  have HL : Hid (ts.length = p) := hc.len.trans hlp
  have HBAD := Go.Lib.hid hbad
  have HBB : Hid (rb < w.heap.size) := hr.2.2.2.2.2.2.1.sz
  have cS := hv.cS
  clear hv he hc hr hbx hbad
  go_enter Tryd.func22, Tryd.ntmps22
  go_wp2_with fail
  go_loopw [10] (fun i wr => ∃ (j : Nat) (s1 : List Int) (k1 : Nat) (q1 : List Int) (v : Value), j ≤ p ∧ i = .int .i64 j ∧ Hid (Chain ((es.take p).drop j) s1 k1 q1 (ts.drop j) l' k' kept') ∧ Hid (Round w F0 T0 rb ts s1 k1 q1 j v wr)) (fun i _ => es.length - (intOf i).toNat)
  case atStart => exact ⟨0, l, k, kept, _, Nat.zero_le _, rfl, HC0.out, HR0.out⟩
  case round =>
    obtain ⟨j, s1, k1, q1, v, hj, rfl, HC, HR⟩ := hrel
    by_cases hlt : j < p
    · obtain ⟨t, s2, k2, q2, hstep, ht, hC2⟩ := HC.out.at j (by rw [hlp]; exact hlt)
      have hje : es[j]? = some (es[j]'(by omega)) := List.getElem?_eq_getElem (by omega)
      rw [List.getElem_take] at hstep
      generalize es[j]'(by omega) = e at hstep hje
      obtain ⟨c0, c1, c2, c3, c4⟩ := HE.out j e hje
      obtain ⟨op, str, n, fl, bk⟩ := e
      have HS : Hid (∀ w, RB w rb s1 k1 q1 → Calls Tryd.prog 23 #[.pointer (some ⟨rb, 0, none⟩), .agg #[.int .i64 op, .string str, .int .i64 n, .bool fl, .bool bk]] w (KeyPost rb t s2 k2 q2 w)) := fun w h => hstep rb w h
      have HT := Go.Lib.hid ht
      have HC2 := Go.Lib.hid hC2
      have hkept := HR.out.2.2.2.2.2.1
      have hsrb := HBB.out
      have hbw : b < w.heap.size := by omega
      have hbn : b ≠ rb := by omega
      have hble : b ≤ rb ∨ ¬ I32 w b := .inl (by omega)
      have e0 := (hkept.cell (off + j * 5) hbw HBX.out hbn hble).trans c0
      have e1 := (hkept.cell (off + j * 5 + 1) hbw HBX.out hbn hble).trans c1
      have e2 := (hkept.cell (off + j * 5 + 2) hbw HBX.out hbn hble).trans c2
      have e3 := (hkept.cell (off + j * 5 + 3) hbw HBX.out hbn hble).trans c3
      have e4 := (hkept.cell (off + j * 5 + 4) hbw HBX.out hbn hble).trans c4
      have eB := (hkept.cell 0 HV.out.lB HV.out.nB HV.out.bb (.inr HV.out.iB)).trans HV.out.cB
      simp only at e0 e1 e2 e3 e4
      clear c0 c1 c2 c3 c4 cS hkept hje hstep ht hC2 hbw hbn hble
      have hj0 : (0 : Int) ≤ j := by omega
      have hj1 : (j : Int) < es.length := by omega
      have hws := HR.out.2.2.2.2.2.1.size
      have lB := HV.out.lB
      have lF := HV.out.lF
      have lT := HV.out.lT
      have nB1 : B0 < wr.heap.size := by omega
      have nB2 : ¬ B0 = wr.heap.size := by omega
      have H1 : Hid (RB (wr.alloc (.cells #[.int .i64 op, .string str, .int .i64 n, .bool fl, .bool bk] 30)) rb s1 k1 q1) := HR.out.2.2.2.2.2.2.1.below ((Below.refl _ _).alloc (Nat.le_refl _) _)
      go_wp2_with fail
      refine (HS.out _ H1.out).mono ?_
      rintro e w2 hP
      obtain ⟨rfl, hB2, o2⟩ := hP
      have HB2 := Go.Lib.hid hB2
      have O2 := Go.Lib.hid o2
      obtain ⟨cF, fF, cT, fT, hown, hkept, hbuf, iF⟩ := HR.out
      have hnF := HV.out.nF
      have htb := HV.out.tb
      have hfb := HV.out.fb
      have ea : ∀ q, q < w.heap.size → (wr.alloc (.cells #[.int .i64 op, .string str, .int .i64 n, .bool fl, .bool bk] 30)).heap[q]? = wr.heap[q]? := fun q hq => Below.heap_alloc _ _ _ (by omega)
      have bF : w2.heap[F0]? = wr.heap[F0]? := (o2.rest F0 (by simp; omega) hfb (.inr fun h' => iF (h'.of (ea F0 lF).symm))).trans (ea F0 lF)
      have bT : w2.heap[T0]? = wr.heap[T0]? := (o2.rest T0 (by simp; omega) (by omega) (.inl (by omega))).trans (ea T0 lT)
      have cF2 : w2.cell? ⟨F0, 0, none⟩ = some (.bool true) := (World.cell?_of_block (w := wr) bF).trans cF
      have fF2 : w2.frozen? ⟨F0, 0, none⟩ = false := (World.frozen?_of_block (w := wr) bF).trans fF
      have cT2 : w2.cell? ⟨T0, 0, none⟩ = some v := (World.cell?_of_block (w := wr) bT).trans cT
      have fT2 : w2.frozen? ⟨T0, 0, none⟩ = false := (World.frozen?_of_block (w := wr) bT).trans fT
      have hw2 : wr.heap.size + 1 ≤ w2.heap.size := by have := o2.size; simpa using this
      have hown2 := ownsRow_setCell_below (a := ⟨F0, 0, none⟩) (o2.ownsRow (by decide) (hown.alloc _) HBB.out) lF (.bool true)
      have nFT : ¬ F0 = T0 := hnF
      have nTF : ¬ T0 = F0 := fun e => nFT e.symm
      have lF2 : F0 < w2.heap.size := by omega
      have lT2 : T0 < w2.heap.size := by omega
      have mF2 : ¬ F0 = w2.heap.size := by omega
      have mT2 : ¬ T0 = w2.heap.size := by omega
      clear bF bT hnF hown hkept hbuf cF fF cT fT hB2 o2 e0 e1 e2 e3 e4 eB ea iF htb hfb
      have hloR := hown2.lt
      have hnews : ∀ (i : Nat) (u : Value), [Value.int .i64 t][i]? = some u → ((w2.setCell ⟨F0, 0, none⟩ (.bool true)).alloc (.cells #[.int .i64 t] 3)).cell? ((⟨w2.heap.size, 0, none⟩ : Addr).add i) = some u := fun i u h => by
        have := news_one (w2.setCell ⟨F0, 0, none⟩ (.bool true)) (.int .i64 t) 3 i u h
        rwa [show (w2.setCell ⟨F0, 0, none⟩ (.bool true)).heap.size = w2.heap.size by simp [World.setCell]] at this
      have HNW := Go.Lib.hid hnews
      clear hnews
      go_wp2_with (at_builtin; refine wpList_append_lies _ rfl _ _ 27 rfl w.heap.size 3 ib (.int .i64 0) 1 8 Tryd.underlying27 hib hz0 hz1 hz2 rfl (by decide) v j (ints (ts.take j)) rfl (hown2.alloc _) ⟨w2.heap.size, 0, none⟩ 1 1 [.int .i64 t] rfl rfl HNW.out (by simp [Value.oneCell']) (by decide) ?c1 ?c2 ?c3 _ rfl ?_)
      case c1 => unfold maxLen; omega
      case c2 => omega
      case c3 => simp; omega
      intro g2 cap2 w3 hown3 hgrow3 _ _
      have hfar : ∀ k, k < w.heap.size → w3.heap[k]? = ((w2.setCell ⟨F0, 0, none⟩ (.bool true)).alloc (.cells #[.int .i64 t] 3)).heap[k]? := fun k hk => hgrow3.block k (by simp; omega) (fun e => by have := (hloR k e.symm).1; omega)
      have hfar2 : ∀ k, k < w.heap.size → ((w2.setCell ⟨F0, 0, none⟩ (.bool true)).alloc (.cells #[.int .i64 t] 3)).heap[k]? = (w2.setCell ⟨F0, 0, none⟩ (.bool true)).heap[k]? := fun k hk => Below.heap_alloc _ _ _ (by simp; omega)
      have eT : w3.heap[T0]? = w2.heap[T0]? := ((hfar T0 lT).trans (hfar2 T0 lT)).trans (Below.heap_setCell _ _ _ _ nTF)
      have cT3 : w3.cell? ⟨T0, 0, none⟩ = some v := (World.cell?_of_block (w := w2) eT).trans cT2
      have fT3 : w3.frozen? ⟨T0, 0, none⟩ = false := (World.frozen?_of_block (w := w2) eT).trans fT2
      have HN : Hid (Round w F0 T0 rb ts s2 k2 q2 (j + 1) (.slice (some ⟨g2, 0, none⟩) (j + 1) cap2) (w3.setCell ⟨T0, 0, none⟩ (.slice (some ⟨g2, 0, none⟩) (j + 1) cap2))) :=
        round_next HR.out lF lT HV.out.nF HV.out.tb HV.out.fb HBB.out (by have := HL.out; omega) HT.out O2.out HB2.out hown3 hgrow3
      clear hown3 hgrow3 hfar hfar2 eT hown2 hloR cT2 fT2 cF2 fF2
      go_wp2_with fail
      go_roundw
      case rel => exact ⟨j + 1, s2, k2, q2, _, by omega, by go_num, HC2.out, HN.out⟩
      case measure => simp [intOf]; omega
    · obtain rfl : j = p := by omega
      have HF : s1 = l' ∧ k1 = k' ∧ q1 = kept' := by
        have := HC.out
        rw [List.drop_of_length_le (by omega)] at this
        generalize ts.drop j = tl at this
        cases this with
        | nil => exact ⟨rfl, rfl, rfl⟩
      obtain ⟨rfl, rfl, rfl⟩ := HF
      have hje : es[j]? = some (es[j]'hp) := List.getElem?_eq_getElem hp
      have hstep := HBAD.out
      clear HBAD
      generalize es[j]'hp = e at hstep hje
      obtain ⟨c0, c1, c2, c3, c4⟩ := HE.out j e hje
      obtain ⟨op, str, n, fl, bk⟩ := e
      have HS : Hid (∀ w, RB w rb s1 k1 q1 → Calls Tryd.prog 23 #[.pointer (some ⟨rb, 0, none⟩), .agg #[.int .i64 op, .string str, .int .i64 n, .bool fl, .bool bk]] w fun e w' => (∃ u pv, e = .panicked [{ v := .iface u pv, recovered := false }]) ∧ Own rb w w') := fun w h => hstep rb w h
      have hkept := HR.out.2.2.2.2.2.1
      have hsrb := HBB.out
      have hbw : b < w.heap.size := by omega
      have hbn : b ≠ rb := by omega
      have hble : b ≤ rb ∨ ¬ I32 w b := .inl (by omega)
      have e0 := (hkept.cell (off + j * 5) hbw HBX.out hbn hble).trans c0
      have e1 := (hkept.cell (off + j * 5 + 1) hbw HBX.out hbn hble).trans c1
      have e2 := (hkept.cell (off + j * 5 + 2) hbw HBX.out hbn hble).trans c2
      have e3 := (hkept.cell (off + j * 5 + 3) hbw HBX.out hbn hble).trans c3
      have e4 := (hkept.cell (off + j * 5 + 4) hbw HBX.out hbn hble).trans c4
      have eB := (hkept.cell 0 HV.out.lB HV.out.nB HV.out.bb (.inr HV.out.iB)).trans HV.out.cB
      simp only at e0 e1 e2 e3 e4
      clear c0 c1 c2 c3 c4 cS hkept hje hstep hbw hbn hble
      have hj0 : (0 : Int) ≤ j := by omega
      have hj1 : (j : Int) < es.length := by omega
      have hws := HR.out.2.2.2.2.2.1.size
      have lB := HV.out.lB
      have lF := HV.out.lF
      have lT := HV.out.lT
      have nB1 : B0 < wr.heap.size := by omega
      have nB2 : ¬ B0 = wr.heap.size := by omega
      have H1 : Hid (RB (wr.alloc (.cells #[.int .i64 op, .string str, .int .i64 n, .bool fl, .bool bk] 30)) rb s1 k1 q1) := HR.out.2.2.2.2.2.2.1.below ((Below.refl _ _).alloc (Nat.le_refl _) _)
      go_wp2_with fail
      refine (HS.out _ H1.out).mono ?_
      rintro e w2 ⟨⟨u, pv, rfl⟩, o2⟩
      have HK2 : Hid (Kept rb [F0, T0] w w2) := (HR.out.2.2.2.2.2.1.alloc _).trans (Kept.own o2)
      have hr := HR.out
      have htb := HV.out.tb
      have bT : w2.heap[T0]? = wr.heap[T0]? := (o2.rest T0 (by simp; omega) (by omega) (.inl (by omega))).trans (Below.heap_alloc _ _ _ (by omega))
      have HCT : Hid (w2.cell? ⟨T0, 0, none⟩ = some v ∧ w2.frozen? ⟨T0, 0, none⟩ = false) := ⟨(World.cell?_of_block (w := wr) bT).trans hr.2.2.1, (World.frozen?_of_block (w := wr) bT).trans hr.2.2.2.1⟩
      clear o2 hr bT htb
      go_wp2_with fail
      exact ⟨rfl, ⟨u, pv, rfl⟩, HK2.out, v, HCT.out⟩

theorem caught_fail (S0 B0 F0 T0 rb b off : Nat) (cap : Nat) (es : List Ky) (p : Nat) (ts l l' kept kept' : List Int) (k k' : Nat) (w : World)
    (hv : Vars4 w S0 B0 F0 T0 rb (some ⟨b, off, none⟩) es.length cap) (hbl : b < rb) (hbx : b ∉ [F0, T0]) (he : KysAt w b off es)
    (hc : Chain (es.take p) l k kept ts l' k' kept') (hp : p < es.length) (hbad : KeyBad (es[p]'hp) l' k' kept') (hr : Round w F0 T0 rb ts l k kept 0 (.slice none 0 0) w) (hn : es.length ≤ 2147483647) :
    Calls Tryd.prog 21 #[.func (.func 22) #[] #[.pointer (some ⟨S0, 0, none⟩), .pointer (some ⟨B0, 0, none⟩), .pointer (some ⟨F0, 0, none⟩), .pointer (some ⟨T0, 0, none⟩)]] w fun e w' => e = .returned (.bool false) ∧ Kept rb [F0, T0] w w' ∧ ∃ v, w'.cell? ⟨T0, 0, none⟩ = some v ∧ w'.frozen? ⟨T0, 0, none⟩ = false := by
  have eg : ∀ args w, (callFunc 22 args).run Tryd.prog w = .ok (.enter 22 args) w := fun _ _ => by kernel_rfl
  have hb0 : Below w.heap.size w (w.alloc (.cells #[.bool false] 4)) := (Below.refl _ _).alloc (Nat.le_refl _) _
  obtain ⟨cF, fF, cT, fT, hown, hk, hB, iF⟩ := hr
  have hsz : (w.alloc (.cells #[.bool false] 4)).heap.size = w.heap.size + 1 := by simp
  have hrb := hB.sz
  have h3 := hv.lF
  have h4 := hv.lT
  have hnX : w.heap.size ∉ [F0, T0] := by
    simp only [List.mem_cons, List.not_mem_nil, or_false, not_or]
    omega
  have hnr : w.heap.size ≠ rb := by omega
  have hni : ¬ I32 (w.alloc (.cells #[.bool false] 4)) w.heap.size := not_i32 (heap_alloc_new w _) (by decide)
  have hi : ∀ q, q < w.heap.size → ¬ I32 w q → ¬ I32 (w.alloc (.cells #[.bool false] 4)) q := fun q hq h h' => h (h'.of (hb0.block q hq).symm)
  have hv1 : Vars4 (w.alloc (.cells #[.bool false] 4)) S0 B0 F0 T0 rb (some ⟨b, off, none⟩) es.length cap :=
    ⟨(hb0.cell (p := ⟨S0, 0, none⟩) hv.lS).trans hv.cS, (hb0.cell (p := ⟨B0, 0, none⟩) hv.lB).trans hv.cB, by have := hv.lS; omega, by have := hv.lB; omega, by omega, by omega, hv.nS, hv.nB, hv.nF, hv.sb, hv.bb, hv.tb, hv.fb, hi B0 hv.lB hv.iB⟩
  have hr1 : Round (w.alloc (.cells #[.bool false] 4)) F0 T0 rb ts l k kept 0 (.slice none 0 0) (w.alloc (.cells #[.bool false] 4)) :=
    ⟨(hb0.cell (p := ⟨F0, 0, none⟩) hv.lF).trans cF, (hb0.frozen (p := ⟨F0, 0, none⟩) hv.lF).trans fF, (hb0.cell (p := ⟨T0, 0, none⟩) hv.lT).trans cT, (hb0.frozen (p := ⟨T0, 0, none⟩) hv.lT).trans fT, World.ownsRow_nil _ _ _ _, Kept.refl _ _ _, hB.below hb0, hi F0 hv.lF iF⟩
  have hcl := script_fail S0 B0 F0 T0 rb b off cap es p ts l l' kept kept' k k' _ hv1 hbl hbx (he.of (hb0.block b (by omega))) hc hp hbad hr1 hn
  refine (caught_panic 22 _ w (fun w1 => Kept rb [F0, T0] (w.alloc (.cells #[.bool false] 4)) w1 ∧ ∃ v, w1.cell? ⟨T0, 0, none⟩ = some v ∧ w1.frozen? ⟨T0, 0, none⟩ = false) eg ?_).mono ?_
  · refine hcl.mono ?_
    rintro e w1 ⟨⟨u, pv, rfl⟩, hk1, hv1⟩
    exact ⟨u, pv, rfl, ⟨hk1, hv1⟩, (hk1.cell 0 (by omega) hnX hnr (.inr hni)).trans (by simp), (hk1.frozen 0 (by omega) hnX hnr (.inr hni)).trans (by simp)⟩
  · rintro e w1 ⟨rfl, w2, ⟨hk1, v, cT1, fT1⟩, rfl⟩
    simp only [List.mem_cons, List.not_mem_nil, or_false, not_or] at hnX
    have hk2 : Kept rb [F0, T0] w w2 := (Kept.of hb0).trans hk1
    refine ⟨rfl, ⟨hk2.os, hk2.tape, hk2.output, by simpa [World.setCell] using hk2.size, fun k hk hx h1 h2 => (Below.heap_setCell _ _ _ _ (by show k ≠ w.heap.size; omega)).trans (hk2.rest k hk hx h1 h2)⟩, v, ?_, ?_⟩
    · rw [World.cell?_setCell_other _ _ _ _ (by intro h; have := congrArg Addr.block h; simp at this; exact hnX.2 this)]; exact cT1
    · rw [World.frozen?_setCell]; exact fT1

def NonePost (w : World) (e : Ending) (w' : World) : Prop := e = .returned (.tuple #[.agg #[.string ⟨#[]⟩, .int .i64 0], .slice none 0 0, .bool false]) ∧ Below w.heap.size w w'

attribute [local go_sem] undef in
set_option maxRecDepth 100000 in
set_option maxHeartbeats 4000000 in
theorem keyed_fail (b off cap : Nat) (es : List Ky) (p : Nat) (ts l' kept' : List Int) (k' : Nat) (w : World) (hbl : b < w.heap.size) (he : KysAt w b off es) (hc : Chain (es.take p) [] 0 [] ts l' k' kept') (hp : p < es.length) (hbad : KeyBad (es[p]'hp) l' k' kept') (hn : es.length ≤ 2147483647) :
    Calls Tryd.prog 10 #[.slice (some ⟨b, off, none⟩) es.length cap] w (NonePost w) := by
  have hmf : ∀ (fn : Fn) (first cap : Array Value) (w : World), (Instr.makeFunc fn first cap).run Tryd.prog w = .ok (.func fn first cap) w := fun _ _ _ _ => rfl
  have HE := Go.Lib.hid he
  have HC := Go.Lib.hid hc
  have HBAD := Go.Lib.hid hbad
  clear he hc hbad
  go_enter Tryd.func10, Tryd.ntmps10
  go_wp2_with fail
  have b6 : ∀ W : World, Below w.heap.size w W → W.heap[b]? = w.heap[b]? := fun W h => h.block b hbl
  refine (caught_fail w.heap.size (w.heap.size + 1 + 1 + 1 + 1) (w.heap.size + 1 + 1 + 1 + 1 + 1) (w.heap.size + 1 + 1) (w.heap.size + 1 + 1 + 1) b off cap es p ts [] l' [] kept' 0 k' _ ?_ (by omega) (by simp; omega) ?_ HC.out hp HBAD.out ?_ hn).mono ?_
  · exact ⟨by simp [go_sem], by simp [go_sem], by simp <;> omega, by simp <;> omega, by simp <;> omega, by simp <;> omega, by simp <;> omega, by simp <;> omega, by omega, by omega, by omega, by omega, by omega, ni_old (ni_at _ _ (by simp) (by decide)) (by simp)⟩
  · exact HE.out.of (b6 _ ((((((Below.refl w.heap.size w).alloc (Nat.le_refl _) _).alloc (by simp) _).alloc (by simp; omega) _).alloc (by simp; omega) _).alloc (by simp; omega) _ |>.alloc (by simp; omega) _))
  · refine ⟨by simp [go_sem], by simp [go_sem], by simp [go_sem], by simp [go_sem], World.ownsRow_nil _ _ _ _, Kept.refl _ _ _, ⟨none, 0, none, 0, ?_⟩, ?_⟩
    · refine ⟨by simp [go_sem], by simp [go_sem], by simp [go_sem], ⟨rfl, .inl ⟨rfl, rfl⟩⟩, ⟨rfl, .inl ⟨rfl, rfl⟩⟩, fun g h => by simp [blk] at h, fun j => by simp [go_sem], by simp <;> omega, ni_old (ni_old (ni_at _ _ (by simp) (by decide)) (by simp)) (by simp)⟩
    · exact ni_at _ _ (by simp) (by decide)
  rintro e w1 ⟨rfl, hk, v, cT, fT⟩
  have hz := hk.size
  have hge : w.heap.size + 1 + 1 + 1 + 1 + 1 + 1 ≤ w1.heap.size := by simpa using hz
  have d0 : w1.cell? ⟨w.heap.size + 1, 0, none⟩ = some (.string ⟨#[]⟩) := (hk.cell 0 (by simp <;> omega) (by simp <;> omega) (by omega) (.inl (by omega))).trans (by simp [go_sem])
  have d1 : w1.cell? ⟨w.heap.size + 1, 1, none⟩ = some (.int .i64 0) := (hk.cell 1 (by simp <;> omega) (by simp <;> omega) (by omega) (.inl (by omega))).trans (by simp [go_sem])
  have f0 : w1.frozen? ⟨w.heap.size + 1, 0, none⟩ = false := (hk.frozen 0 (by simp <;> omega) (by simp <;> omega) (by omega) (.inl (by omega))).trans (by simp [go_sem])
  have f1 : w1.frozen? ⟨w.heap.size + 1, 1, none⟩ = false := (hk.frozen 1 (by simp <;> omega) (by simp <;> omega) (by omega) (.inl (by omega))).trans (by simp [go_sem])
  have HBL : Hid (Below w.heap.size w w1) := by
    refine ⟨hk.os, hk.tape, hk.output, by omega, fun q hq => ?_⟩
    have h1 := hk.rest q (by simp <;> omega) (by simp <;> omega) (by omega) (.inl (by omega))
    rw [h1]
    exact ((((((Below.refl w.heap.size w).alloc (Nat.le_refl _) _).alloc (by simp) _).alloc (by simp; omega) _).alloc (by simp; omega) _).alloc (by simp; omega) _ |>.alloc (by simp; omega) _).block q hq
  clear hk b6
  go_wp2_with fail
  have q0 : (((w1.setCell ⟨w.heap.size + 1, 0, none⟩ (.string ⟨#[]⟩)).setCell ⟨w.heap.size + 1, 1, none⟩ (.int .i64 0)).setCell ⟨w.heap.size + 1 + 1, 0, none⟩ (.slice none 0 0)).cell? ⟨w.heap.size + 1, 0, none⟩ = some (.string ⟨#[]⟩) := by
    rw [World.cell?_setCell_other _ _ _ _ (by simp), World.cell?_setCell_other _ _ _ _ (by simp), World.cell?_setCell_same' _ _ _ (by rw [d0]; rfl)]
  have q1 : (((w1.setCell ⟨w.heap.size + 1, 0, none⟩ (.string ⟨#[]⟩)).setCell ⟨w.heap.size + 1, 1, none⟩ (.int .i64 0)).setCell ⟨w.heap.size + 1 + 1, 0, none⟩ (.slice none 0 0)).cell? ⟨w.heap.size + 1, 1, none⟩ = some (.int .i64 0) := by
    rw [World.cell?_setCell_other _ _ _ _ (by simp), World.cell?_setCell_same' _ _ _ (by rw [World.cell?_setCell_other _ _ _ _ (by simp), d1]; rfl)]
  have q2 : (((w1.setCell ⟨w.heap.size + 1, 0, none⟩ (.string ⟨#[]⟩)).setCell ⟨w.heap.size + 1, 1, none⟩ (.int .i64 0)).setCell ⟨w.heap.size + 1 + 1, 0, none⟩ (.slice none 0 0)).cell? ⟨w.heap.size + 1 + 1, 0, none⟩ = some (.slice none 0 0) :=
    World.cell?_setCell_same' _ _ _ (by rw [World.cell?_setCell_other _ _ _ _ (by simp), World.cell?_setCell_other _ _ _ _ (by simp), cT]; rfl)
  refine bodyPost_ret (v := .tuple #[.agg #[.string ⟨#[]⟩, .int .i64 0], .slice none 0 0, .bool false]) (by simp [results, Tryd.results10, go_sem, q0, q1, q2]) rfl ⟨rfl, ?_⟩
  have hb := HBL.out
  refine ⟨hb.os, hb.tape, hb.output, by simpa [World.setCell] using hb.size, fun i hi => ?_⟩
  rw [Below.heap_setCell _ _ _ _ (by show i ≠ w.heap.size + 1 + 1; omega), Below.heap_setCell _ _ _ _ (by show i ≠ w.heap.size + 1; omega), Below.heap_setCell _ _ _ _ (by show i ≠ w.heap.size + 1; omega)]
  exact hb.block i hi

def OnceBad (w : World) (e : Ending) (w' : World) : Prop := e = .returned (.tuple #[.agg #[.string ⟨#[]⟩, .int .i64 0], .int .i64 0, .bool false]) ∧ Below w.heap.size w w'

end Go.Proofs.YtoimdbmjpkmkfaaDoor
