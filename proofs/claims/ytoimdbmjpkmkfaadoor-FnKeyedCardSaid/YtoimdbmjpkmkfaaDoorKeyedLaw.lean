/- laws.FnKeyed: the walk. -/
import Derived.Test.YtoimdbmjpkmkfaaDoorKeyAll
import Derived.Test.YtoimdbmjpkmkfaaDoorKeysRow
import Derived.Test.YtoimdbmjpkmkfaaDoorKey9B
import Derived.Deep.QuietTactic
import Derived.BigQuiet
namespace Go.Proofs.YtoimdbmjpkmkfaaDoor
open Go.RowKit
set_option linter.unusedVariables false
set_option linter.unusedSimpArgs false

theorem Rw.keptI {w w' : World} {eb : Nat} {A : Option Addr} {l : List Int} (h : Rw w eb A l) (hz : w.heap.size ≤ w'.heap.size) (hk : ∀ k, k < w.heap.size → I32 w k → w'.heap[k]? = w.heap[k]?) : Rw w' eb A l := by
  rcases h with h | ⟨b, off, ha, hl, hn, hc⟩
  · exact .inl h
  · exact .inr ⟨b, off, ha, by omega, ⟨hn.1, hn.2.of (hk b hl hn.2)⟩, fun i hi => (World.cell?_of_block (w := w) (hk b hl hn.2)).trans (hc i hi)⟩
/-- An editor stands when a row of ints grows that lies behind it. -/
theorem Ed.grown {w w' : World} {eb : Nat} {l : List Int} {k : Nat} {kept : List Int} {bad op : Bool} (h : Ed w eb l k kept bad op) {row : Option Nat} (hg : w.grownBy w' row) {base : Nat} {v : Value} {n : Nat} {xs : List Value} (hr : row = v.ownBlock) (ho : w.ownsRow base 3 1 v n xs) (hb : eb < base) : Ed w' eb l k kept bad op := by
  obtain ⟨A, cap, B, cap2, h⟩ := h
  have hne : ∀ q, q < w.heap.size → (q = eb ∨ I32 w q) → w'.heap[q]? = w.heap[q]? := fun q hq hx => hg.block q hq (by
    intro e'
    rw [hr] at e'
    obtain ⟨hlo, hlt⟩ := ho.lt q e'.symm
    rcases hx with e | e
    · omega
    · rcases ho.2 with ⟨rfl, _⟩ | ⟨g, cap, cur, rfl, _, hh, _⟩
      · simp [Value.ownBlock] at e'
      · have : q = g := by simpa [Value.ownBlock] using e'
        subst this
        exact not_i32 hh (by decide) e)
  have e := hne eb h.sz (.inl rfl)
  have c : ∀ j, w'.cell? ⟨eb, j, none⟩ = w.cell? ⟨eb, j, none⟩ := fun j => World.cell?_of_block (w := w) e
  exact ⟨A, cap, B, cap2, (c _).trans h.c0, (c _).trans h.c1, (c _).trans h.c2, (c _).trans h.c3, (c _).trans h.c4, h.r0.keptI hg.size fun q hq hi => hne q hq (.inr hi), h.r2.keptI hg.size fun q hq hi => hne q hq (.inr hi), h.lc, h.lc2, h.n0, h.n2, fun j => (World.frozen?_of_block (w := w) e).trans (h.f j), Nat.lt_of_lt_of_le h.sz hg.size⟩
theorem EdK.ownsRow {eb : Nat} {w w' : World} (h : EdK eb w w') {base : Nat} {e : TypeId} {v : Value} {n : Nat} {xs : List Value} (ho : w.ownsRow base e 1 v n xs) (hb : eb < base) : w'.ownsRow base e 1 v n xs := by
  refine ⟨ho.1, ?_⟩
  rcases ho.2 with h0 | ⟨g, cap, cur, hv, hg, hh, r⟩
  · exact .inl h0
  · exact .inr ⟨g, cap, cur, hv, hg, by rw [h.rest g (Array.getElem?_eq_some_iff.1 hh).1 (by omega)]; exact hh, r⟩
theorem row_below {w w' : World} {base : Nat} {e : TypeId} {z : Nat} {v : Value} {n : Nat} {xs : List Value} (h : w.ownsRow base e z v n xs) (hb : Below w.heap.size w w') : w'.ownsRow base e z v n xs := by
  refine ⟨h.1, ?_⟩
  rcases h.2 with h0 | ⟨g, cap, cur, rfl, hg, hh, r⟩
  · exact .inl h0
  · exact .inr ⟨g, cap, cur, rfl, hg, by rw [hb.block g (Array.getElem?_eq_some_iff.1 hh).1]; exact hh, r⟩
theorem row_any {w : World} {base : Nat} {e : TypeId} {v : Value} {n : Nat} {xs : List Value} (h : w.ownsRow base e 1 v n xs) : ∃ A c, v = .slice A n c ∧ (0 < n → ∃ g, A = some ⟨g, 0, none⟩ ∧ base ≤ g ∧ g < w.heap.size ∧ ∀ (j : Nat) (u : Value), xs[j]? = some u → w.cell? ⟨g, j, none⟩ = some u) := by
  have hx := h.1
  rcases h.2 with ⟨rfl, h0⟩ | ⟨g, cap, cur, rfl, hg, hh, hc, _, hcs, htk⟩
  · subst h0
    exact ⟨none, 0, rfl, fun h => absurd h (Nat.lt_irrefl 0)⟩
  · refine ⟨_, cap, rfl, fun _ => ⟨g, rfl, hg, (Array.getElem?_eq_some_iff.1 hh).1, fun j u hu => ?_⟩⟩
    have hj := (List.getElem?_eq_some_iff.1 hu).1
    rw [World.cell?, hh]
    have := congrArg (·[j]?) htk
    simp only [hu] at this
    have hjn : j < n * 1 := by omega
    rw [List.getElem?_take_of_lt hjn] at this
    simpa using this

namespace fnKeyed
attribute [local go_sem] undef Instr.field asAgg in
set_option maxRecDepth 100000 in
set_option maxHeartbeats 8000000 in
theorem walk (a : Option Addr) (len cap : Nat) (es : List Ky) (w : World) (w0 : es.length = len ∧ IsKys w a es ∧ len ≤ maxLen) {X : Prop} (_hL : X) :
    Calls Tryd.prog 3 #[.slice a len cap] w fun e w' => e = .returned (.bool true) ∧ Below w.heap.size w w' := by
  obtain ⟨ibb, hib, hz0, hz1, hz2⟩ := info_parts (show (Tryd.prog.info? 3).map (fun i => (i.zero, i.size, i.bytes)) = some (some (.int .i64 0), 1, 8) by kernel_rfl)
  obtain ⟨rfl, hk, _⟩ := w0
  have HK0 := Go.Lib.hid hk
  have HF12 := Go.Lib.hid (fits12_any a cap es w hk)
  have HKD : Hid (∀ (ts l' kept' : List Int) (k' : Nat) (W : World), IsKys W a es → Chain es [] 0 [] ts l' k' kept' → es.length ≤ 2147483647 → l'.length ≤ 100000 → Calls Tryd.prog 10 #[.slice a es.length cap] W (KeyedPost l' k' ts W)) := fun ts l' kept' k' W h1 h2 h3 h4 => keyed_at a cap es ts l' kept' k' W h1 h2 h3 h4
  have HKB : Hid (∀ (p : Nat) (ts l' kept' : List Int) (k' : Nat) (W : World), IsKys W a es → Chain (es.take p) [] 0 [] ts l' k' kept' → (∃ x, es[p]? = some x ∧ KeyBad x l' k' kept') → es.length ≤ 2147483647 → Calls Tryd.prog 10 #[.slice a es.length cap] W (NonePost W)) := fun p ts l' kept' k' W h1 h2 h3 h4 => by
    obtain ⟨x, hx, h3⟩ := h3
    have hp := (List.getElem?_eq_some_iff.1 hx).1
    have hxe := (List.getElem?_eq_some_iff.1 hx).2
    rw [← hxe] at h3
    rcases h1 with rfl | ⟨b, off, rfl, hb, hk⟩
    · simp at hp
    · exact keyed_fail b off cap es p ts l' kept' k' W hb hk h2 hp h3 h4
  clear hk
  obtain ⟨n, hn⟩ : ∃ n, n = es.length := ⟨_, rfl⟩
  have HN := Go.Lib.hid hn
  rw [← hn] at HF12 HKD HKB ⊢
  clear hn
  go_enter Tryd.func3, Tryd.ntmps3
  go_wp2_with fail
  refine HF12.out.mono ?_
  rintro e w1 ⟨r, rfl, hr, b1⟩
  have HFT := Go.Lib.hid hr
  have B1 := Go.Lib.hid b1
  clear hr b1
  cases r
  · go_wp2_with fail
    go_returns
    exact ⟨rfl, B1.out⟩
  have HFS := Go.Lib.hid (HFT.out rfl)
  clear HFT HF12
  go_wp2_with fail
  refine (newEditor_any ⟨#[]⟩ 0 w1 (Nat.zero_le _) (Nat.zero_le _)).mono ?_
  rintro e w2 ⟨eb, rfl, heb, hed, b2⟩
  have B2 : Hid (Below w.heap.size w w2) := B1.out.trans (b2.mono B1.out.size)
  have HED0 : Hid (Ed w2 eb [] 0 [] false false) := hed
  have hebz : eb < w2.heap.size := by obtain ⟨_, _, _, _, h⟩ := hed; exact h.sz
  have hebw : w.heap.size ≤ eb := by have := B1.out.size; omega
  clear b2 hed
  go_wp2_with fail
  go_loopw [5, 23] (fun tv i wr => ∃ (j : Nat) (v : Value) (us l kept : List Int) (k : Nat) (bad : Bool), v = tv ∧ j ≤ n ∧ i = .int .i64 j ∧ Hid (Hist es j us l k kept bad ∧ Ed wr eb l k kept bad false ∧ wr.ownsRow w2.heap.size 3 1 v j (ints us) ∧ Below w.heap.size w wr ∧ w2.heap.size ≤ wr.heap.size ∧ l.length ≤ 300)) (fun _ i _ => n - (intOf i).toNat)
  case atStart => exact ⟨0, _, [], [], [], 0, false, rfl, Nat.zero_le _, rfl, Hist.start es, HED0.out, World.ownsRow_nil _ _ _ _, B2.out, Nat.le_refl _, by simp⟩
  case round =>
    obtain ⟨j, v, us, l, kept, k, bad, rfl, hj, rfl, HX⟩ := hrel
    by_cases hlt : j < n
    · obtain ⟨hist, hed, hown, hbel, hsz, hl3⟩ := HX.out
      rcases HK0.out.of hbel with e0 | ⟨b, off, rfl, hbl, hc⟩
      · have := HN.out; rw [e0] at this; simp at this; omega
      obtain ⟨x, hx⟩ : ∃ x, es[j]? = some x := ⟨_, List.getElem?_eq_getElem (by rw [← HN.out]; exact hlt)⟩
      have hxs : x.s.size ≤ 2147483647 := HFS.out.2 x (List.mem_of_getElem? hx)
      have HK9 := Go.Lib.hid fun w => key9_all x w hxs
      obtain ⟨c0, c1, c2, c3, c4⟩ := hc j x hx
      have HST : Hid (∀ (hy : Keyd x) (h1 : 1 ≤ x.op) (h2 : x.op ≤ 21), ∃ (m : Int) (l' : List Int) (k' : Nat) (kept' : List Int) (bad' op' : Bool), (∀ (eb : Nat) (w : World), Ed w eb l k kept bad false → Calls Tryd.prog 7 #[.pointer (some ⟨eb, 0, none⟩), x.val] w (DoPost eb m l' k' kept' bad' op' w)) ∧ (op' = false → Hist es (j + 1) (us ++ [m]) l' k' kept' bad')) := hist.step x hx hl3
      have HED := Go.Lib.hid hed
      have HOWN := Go.Lib.hid hown
      have HB := Go.Lib.hid hbel
      have hj0 : (0 : Int) ≤ j := by omega
      have hj1 : (j : Int) < n := by omega
      obtain ⟨op, str, m0, fl, bk⟩ := x
      unfold Ky.val at HK9 HST
      dsimp only at c0 c1 c2 c3 c4 HK9 HST
      clear hist hed hown hbel hc hx hxs HX
      by_cases h60 : (60 : Int) < n
      · go_wp2_with fail
        go_returns
        exact ⟨rfl, HB.out⟩
      have h60' : n ≤ 60 := by omega
      go_wp2_with fail
      refine (HK9.out _).mono ?_
      rintro e w3 ⟨r, rfl, hr, b3⟩
      have e0 := (b3.cell (p := ⟨b, off + j * 5, none⟩) hbl).trans c0
      have e1 := (b3.cell (p := ⟨b, off + j * 5 + 1, none⟩) hbl).trans c1
      have e2 := (b3.cell (p := ⟨b, off + j * 5 + 2, none⟩) hbl).trans c2
      have e3 := (b3.cell (p := ⟨b, off + j * 5 + 3, none⟩) hbl).trans c3
      have e4 := (b3.cell (p := ⟨b, off + j * 5 + 4, none⟩) hbl).trans c4
      have HKY := Go.Lib.hid hr
      have B3 : Hid (Below w.heap.size w w3) := HB.out.trans (b3.mono HB.out.size)
      have HED3 := Go.Lib.hid (HED.out.same b3)
      have HOWN3 := Go.Lib.hid (row_below HOWN.out b3)
      have hsz3 : w2.heap.size ≤ w3.heap.size := Nat.le_trans hsz b3.size
      clear hr b3 c0 c1 c2 c3 c4 HED HOWN HB hsz
      cases r
      · go_wp2_with fail
        go_returns
        exact ⟨rfl, B3.out⟩
      obtain ⟨m, l', k', kept', bad', op', hdo, hnx⟩ := HST.out (HKY.out rfl).1 (HKY.out rfl).2.1 (HKY.out rfl).2.2
      have HDO := Go.Lib.hid hdo
      have HNX := Go.Lib.hid hnx
      clear hdo hnx HST HK9 HKY
      go_wp2_with fail
      refine (HDO.out eb w3 HED3.out).mono ?_
      rintro e w4 ⟨rfl, hed4, o4⟩
      have B4 : Hid (Below w.heap.size w w4) := B3.out.trans (o4.below hebw B3.out.size)
      have HOWN4 := Go.Lib.hid (o4.ownsRow HOWN3.out hebz)
      have HED4 := Go.Lib.hid hed4
      have hsz4 : w2.heap.size ≤ w4.heap.size := Nat.le_trans hsz3 o4.size
      have hlo := HOWN4.out.lt
      have HNW := Go.Lib.hid (news_one w4 (.int .i64 m) 3)
      clear hed4 o4 e0 e1 e2 e3 e4 HED3 HOWN3 HDO
      go_wp2_with (at_builtin; refine wpList_append_lies _ rfl _ _ 27 rfl w2.heap.size 3 ibb (.int .i64 0) 1 8 Tryd.underlying27 hib hz0 hz1 hz2 rfl (by decide) v j (ints us) rfl (HOWN4.out.alloc _) ⟨w4.heap.size, 0, none⟩ 1 1 [.int .i64 m] rfl rfl HNW.out (by simp [Value.oneCell']) (by decide) ?c1 ?c2 ?c3 _ rfl ?_)
      case c1 => unfold maxLen; omega
      case c2 => omega
      case c3 => simp; omega
      intro g2 cap2 w5 hown5 hgrow5 _ _
      have HED5 : Hid (Ed w5 eb l' k' kept' bad' op') := (HED4.out.same ((Below.refl _ _).alloc (Nat.le_refl _) _)).grown hgrow5 rfl (HOWN4.out.alloc _) hebz
      have HOWN5 : Hid (w5.ownsRow w2.heap.size 3 1 (.slice (some ⟨g2, 0, none⟩) (j + 1) cap2) (j + 1) (ints (us ++ [m]))) := by
        have e : ints (us ++ [m]) = ints us ++ [.int .i64 m] := by simp [ints]
        rw [Hid, e]; exact hown5
      have hb5 : Below w2.heap.size w4 w5 := ((Below.refl w2.heap.size _).alloc hsz4 _).grown hgrow5 (by simp; omega) (fun k hk => (hlo k hk).1)
      have B5 : Hid (Below w.heap.size w w5) := B4.out.trans (hb5.mono B2.out.size)
      have hsz5 : w2.heap.size ≤ w5.heap.size := Nat.le_trans hsz4 hb5.size
      clear hown5 hgrow5 hb5 hlo HED4 HOWN4
      go_wp2_with fail
      refine (open_any eb _ _ _ _ _ w5 HED5.out).mono ?_
      rintro e w6 ⟨rfl, rfl⟩
      cases op'
      case true =>
        go_wp2_with fail
        go_returns
        exact ⟨rfl, B5.out⟩
      go_wp2_with fail
      refine (line_any eb _ _ _ _ _ w5 HED5.out).mono ?_
      rintro e w6 ⟨rfl, b6⟩
      have B6 : Hid (Below w.heap.size w w6) := B5.out.trans (b6.mono B5.out.size)
      have HED6 := Go.Lib.hid (HED5.out.same b6)
      have HOWN6 := Go.Lib.hid (row_below HOWN5.out b6)
      have hsz6 : w2.heap.size ≤ w6.heap.size := Nat.le_trans hsz5 b6.size
      have HGE := Go.Lib.hid (bytes_ge l')
      generalize runesBytes l' = out at HGE ⊢
      clear b6 HED5 HOWN5
      by_cases h300 : (300 : Int) < out.size
      · go_wp2_with fail
        go_returns
        exact ⟨rfl, B6.out⟩
      go_wp2_with fail
      go_roundw
      case rel => exact ⟨j + 1, _, us ++ [m], l', kept', k', bad', rfl, by omega, by go_num, HNX.out (by trivial), HED6.out, HOWN6.out, B6.out, hsz6, by have := HGE.out; omega⟩
      case measure => simp [intOf]; omega
    · obtain rfl : j = n := by omega
      obtain ⟨hist, hed, hown, hbel, hsz, hl3⟩ := HX.out
      have HKW := Go.Lib.hid (HK0.out.of hbel)
      have HED := Go.Lib.hid hed
      have HOWN := Go.Lib.hid hown
      have HB := Go.Lib.hid hbel
      have HH := Go.Lib.hid hist
      have hl9 : l.length ≤ 100000 := by omega
      have hnl : j ≤ 2147483647 := by have h1 := HFS.out.1; have h2 := HN.out; omega
      clear hist hed hown hbel HX hl3
      have hj1 : ¬ ((j : Int) < j) := by omega
      cases bad
      case true =>
        obtain ⟨p, hp, ts, l1, k1, q1, hch, hbd⟩ := HH.out.failed rfl
        have HC := Go.Lib.hid (HKB.out p ts l1 q1 k1 wr HKW.out hch ⟨_, List.getElem?_eq_getElem hp, hbd⟩ hnl)
        clear hch hbd
        go_wp2_with fail
        refine HC.out.mono ?_
        rintro e w3 ⟨rfl, b3⟩
        have B3 : Hid (Below w.heap.size w w3) := HB.out.trans (b3.mono HB.out.size)
        have HED3 := Go.Lib.hid (HED.out.same b3)
        clear b3
        go_wp2_with fail
        have b4 : Below w3.heap.size w3 (w3.alloc (.cells #[.string ⟨#[]⟩, .int .i64 0] 34)) := (Below.refl _ _).alloc (Nat.le_refl _) _
        refine (bad_any eb _ _ _ _ _ _ (HED3.out.same b4)).mono ?_
        rintro e w4 ⟨rfl, rfl⟩
        have B4 : Hid (Below w.heap.size w (w3.alloc (.cells #[.string ⟨#[]⟩, .int .i64 0] 34))) := B3.out.trans (b4.mono B3.out.size)
        clear b4
        go_wp2_with fail
        refine (keyed_nil none 0 _).mono ?_
        rintro e w5 ⟨v5, rfl, hown5, b5⟩
        have B5 : Hid (Below w.heap.size w w5) := B4.out.trans (b5.mono B4.out.size)
        clear hown5 b5
        go_wp2_with fail
        go_returns
        exact ⟨rfl, B5.out.alloc B5.out.size _⟩
      have hch : Chain es [] 0 [] us l k kept := by
        have := HH.out.good rfl
        rwa [List.take_of_length_le (by have := HN.out; omega)] at this
      have HC := Go.Lib.hid (HKD.out us l kept k wr HKW.out hch hnl hl9)
      have HUL := Go.Lib.hid HH.out.len
      clear hch
      go_wp2_with fail
      refine HC.out.mono ?_
      rintro e w3 ⟨v3, rfl, hown3, b3⟩
      have B3 : Hid (Below w.heap.size w w3) := HB.out.trans (b3.mono HB.out.size)
      have HED3 := Go.Lib.hid (HED.out.same b3)
      have HROW := Go.Lib.hid (row_below HOWN.out b3)
      have HOWN3 := Go.Lib.hid hown3
      clear b3 hown3
      have b4 : Below w3.heap.size w3 (w3.alloc (.cells #[.string (runesBytes l), .int .i64 (k : Nat)] 34)) := (Below.refl _ _).alloc (Nat.le_refl _) _
      obtain ⟨A1, cc1, hv1, hr1⟩ := row_any (row_below HROW.out b4)
      obtain ⟨A3, cc3, hv3, hr3⟩ := row_any (row_below HOWN3.out b4)
      subst hv1 hv3
      rw [HUL.out] at hr3 ⊢
      go_wp2_with fail
      refine (bad_any eb _ _ _ _ _ _ (HED3.out.same b4)).mono ?_
      rintro e w4 ⟨rfl, rfl⟩
      have HED4 := Go.Lib.hid (HED3.out.same b4)
      have B4 : Hid (Below w.heap.size w (w3.alloc (.cells #[.string (runesBytes l), .int .i64 (k : Nat)] 34))) := B3.out.trans (b4.mono B3.out.size)
      have HR1 := Go.Lib.hid hr1
      have HR3 := Go.Lib.hid hr3
      clear b4 hr1 hr3
      go_wp2_with fail
      obtain ⟨W, hW⟩ : ∃ W, W = w3.alloc (.cells #[.string (runesBytes l), .int .i64 (k : Nat)] 34) := ⟨_, rfl⟩
      have r0 : W.cell? ⟨w3.heap.size, 0, none⟩ = some (.string (runesBytes l)) := by rw [hW]; simp [go_sem]
      have r1 : W.cell? ⟨w3.heap.size, 1, none⟩ = some (.int .i64 (k : Nat)) := by rw [hW]; simp [go_sem]
      have rz : w3.heap.size < W.heap.size := by rw [hW]; simp
      rw [← hW] at HED4 B4 HR1 HR3 ⊢
      clear hW
      have HLN := Go.Lib.hid (line_any eb l k kept false false W.drew (HED4.out.same (Below.refl _ _).drew))
      generalize runesBytes l = out at r0 HLN ⊢
      refine region_held_tail 14 (S := (fun w' => w'.cell? ⟨w3.heap.size, 0, none⟩ = some (.string out) ∧ w'.cell? ⟨w3.heap.size, 1, none⟩ = some (.int .i64 (k : Nat)))) (by kernel_rfl) (by kernel_rfl) ?_ (fun hHeld => ?_)
      · (try dsimp only); first | done | (first | exact ⟨r0, r1⟩ | exact ⟨t0, t1⟩)
      refine HeldT.take (i := 0) (v := ?_) (by simp only [List.getElem?_toArray, List.getElem?_cons_succ, List.getElem?_cons_zero]; rfl) (by kernel_rfl) (by kernel_rfl) (by kernel_rfl) (by kernel_rfl) (by exact fun _ _ _ h => h) ?_ (by assumption) ?_
      rotate_left
      · refine Or.inl ⟨by rfl, ?_⟩
        (intro w hSw; (try dsimp only at hSw); go_simp; try with_reducible rfl)
      try simp only [Act.put, List.setIfInBounds_toArray, List.set_cons_zero, List.set_cons_succ]
      refine HeldT.take (i := 1) (v := ?_) (by simp only [List.getElem?_toArray, List.getElem?_cons_succ, List.getElem?_cons_zero]; rfl) (by kernel_rfl) (by kernel_rfl) (by kernel_rfl) (by kernel_rfl) (by exact fun _ _ _ h => h) ?_ (by assumption) ?_
      rotate_left
      · refine Or.inl ⟨by rfl, ?_⟩
        (intro w hSw; (try dsimp only at hSw); go_simp; try with_reducible rfl)
      try simp only [Act.put, List.setIfInBounds_toArray, List.set_cons_zero, List.set_cons_succ]
      refine HeldT.take (i := 2) (v := ?_) (by simp only [List.getElem?_toArray, List.getElem?_cons_succ, List.getElem?_cons_zero]; rfl) (by kernel_rfl) (by kernel_rfl) (by kernel_rfl) (by kernel_rfl) (by exact fun _ _ _ h => h) ?_ (by assumption) ?_
      rotate_left
      · refine Or.inl ⟨by rfl, ?_⟩
        (intro w hSw; (try dsimp only at hSw); go_simp; try with_reducible rfl)
      try simp only [Act.put, List.setIfInBounds_toArray, List.set_cons_zero, List.set_cons_succ]
      refine HeldT.take (i := 3) (v := ?_) (by simp only [List.getElem?_toArray, List.getElem?_cons_succ, List.getElem?_cons_zero]; rfl) (by kernel_rfl) (by kernel_rfl) (by kernel_rfl) (by kernel_rfl) (by exact fun _ _ _ h => h) ?_ (by assumption) ?_
      rotate_left
      · refine Or.inl ⟨by rfl, ?_⟩
        (intro w hSw; (try dsimp only at hSw); go_simp; try with_reducible rfl)
      try simp only [Act.put, List.setIfInBounds_toArray, List.set_cons_zero, List.set_cons_succ]
      refine HeldT.take (i := 4) (v := ?_) (by simp only [List.getElem?_toArray, List.getElem?_cons_succ, List.getElem?_cons_zero]; rfl) (by kernel_rfl) (by kernel_rfl) (by kernel_rfl) (by kernel_rfl) (by exact fun _ _ _ h => h) ?_ (by assumption) ?_
      rotate_left
      · refine Or.inl ⟨by rfl, ?_⟩
        (intro w hSw; (try dsimp only at hSw); go_simp; try with_reducible rfl)
      try simp only [Act.put, List.setIfInBounds_toArray, List.set_cons_zero, List.set_cons_succ]
      refine HeldT.one (i := 5) (by simp only [List.getElem?_toArray, List.getElem?_cons_succ, List.getElem?_cons_zero]; rfl) (by kernel_rfl) (by kernel_rfl) (fun K hK => ?_)
      go_simp
      ((refine HLN.out.mono ?_); rintro e w5 ⟨rfl, b5⟩; have t0 := (b5.cell (p := ⟨w3.heap.size, 0, none⟩) rz).trans r0; have t1 := (b5.cell (p := ⟨w3.heap.size, 1, none⟩) rz).trans r1; have HB5 : Hid (Below W.heap.size W w5) := (Below.refl _ W).drew.trans b5; clear b5)
      try go_wp2_with fail
      refine hK.out _ _ ?_ (fun hHeld => ?_)
      · (try dsimp only); first | done | (first | exact ⟨r0, r1⟩ | exact ⟨t0, t1⟩)
      clear hK K
      try simp only [Act.put, List.setIfInBounds_toArray, List.set_cons_zero, List.set_cons_succ]
      refine HeldT.take (i := 6) (v := ?_) (by simp only [List.getElem?_toArray, List.getElem?_cons_succ, List.getElem?_cons_zero]; rfl) (by kernel_rfl) (by kernel_rfl) (by kernel_rfl) (by kernel_rfl) (by exact fun _ _ _ h => h) ?_ (by assumption) ?_
      rotate_left
      · refine Or.inl ⟨by rfl, ?_⟩
        (intro w hSw; (try dsimp only at hSw); go_simp; try with_reducible rfl)
      try simp only [Act.put, List.setIfInBounds_toArray, List.set_cons_zero, List.set_cons_succ]
      refine HeldT.take (i := 7) (v := ?_) (by simp only [List.getElem?_toArray, List.getElem?_cons_succ, List.getElem?_cons_zero]; rfl) (by kernel_rfl) (by kernel_rfl) (by kernel_rfl) (by kernel_rfl) (by exact fun _ _ _ h => h) ?_ (by assumption) ?_
      rotate_left
      · refine Or.inl ⟨by rfl, ?_⟩
        (intro w hSw; (try dsimp only at hSw); go_simp; try with_reducible rfl)
      try simp only [Act.put, List.setIfInBounds_toArray, List.set_cons_zero, List.set_cons_succ]
      refine HeldT.take (i := 8) (v := ?_) (by simp only [List.getElem?_toArray, List.getElem?_cons_succ, List.getElem?_cons_zero]; rfl) (by kernel_rfl) (by kernel_rfl) (by kernel_rfl) (by kernel_rfl) (by exact fun _ _ _ h => h) ?_ (by assumption) ?_
      rotate_left
      · refine Or.inl ⟨by rfl, ?_⟩
        (intro w hSw; (try dsimp only at hSw); go_simp; try with_reducible rfl)
      try simp only [Act.put, List.setIfInBounds_toArray, List.set_cons_zero, List.set_cons_succ]
      refine HeldT.take (i := 9) (v := ?_) (by simp only [List.getElem?_toArray, List.getElem?_cons_succ, List.getElem?_cons_zero]; rfl) (by kernel_rfl) (by kernel_rfl) (by kernel_rfl) (by kernel_rfl) (by exact fun _ _ _ h => h) ?_ (by assumption) ?_
      rotate_left
      · refine Or.inl ⟨by rfl, ?_⟩
        (intro w hSw; (try dsimp only at hSw); go_simp; try with_reducible rfl)
      try simp only [Act.put, List.setIfInBounds_toArray, List.set_cons_zero, List.set_cons_succ]
      refine HeldT.take (i := 10) (v := ?_) (by simp only [List.getElem?_toArray, List.getElem?_cons_succ, List.getElem?_cons_zero]; rfl) (by kernel_rfl) (by kernel_rfl) (by kernel_rfl) (by kernel_rfl) (by exact fun _ _ _ h => h) ?_ (by assumption) ?_
      rotate_left
      · refine Or.inl ⟨by rfl, ?_⟩
        (intro w hSw; (try dsimp only at hSw); go_simp; try with_reducible rfl)
      try simp only [Act.put, List.setIfInBounds_toArray, List.set_cons_zero, List.set_cons_succ]
      refine HeldT.take (i := 11) (v := ?_) (by simp only [List.getElem?_toArray, List.getElem?_cons_succ, List.getElem?_cons_zero]; rfl) (by kernel_rfl) (by kernel_rfl) (by kernel_rfl) (by kernel_rfl) (by exact fun _ _ _ h => h) ?_ (by assumption) ?_
      rotate_left
      · refine Or.inl ⟨by rfl, ?_⟩
        (intro w hSw; (try dsimp only at hSw); go_simp; try with_reducible rfl)
      try simp only [Act.put, List.setIfInBounds_toArray, List.set_cons_zero, List.set_cons_succ]
      refine HeldT.take (i := 12) (v := ?_) (by simp only [List.getElem?_toArray, List.getElem?_cons_succ, List.getElem?_cons_zero]; rfl) (by kernel_rfl) (by kernel_rfl) (by kernel_rfl) (by kernel_rfl) (by exact fun _ _ _ h => h) ?_ (by assumption) ?_
      rotate_left
      · refine Or.inl ⟨by rfl, ?_⟩
        (intro w hSw; (try dsimp only at hSw); go_simp; try with_reducible rfl)
      try simp only [Act.put, List.setIfInBounds_toArray, List.set_cons_zero, List.set_cons_succ]
      refine HeldT.take (i := 13) (v := ?_) (by simp only [List.getElem?_toArray, List.getElem?_cons_succ, List.getElem?_cons_zero]; rfl) (by kernel_rfl) (by kernel_rfl) (by kernel_rfl) (by kernel_rfl) (by exact fun _ _ _ h => h) ?_ (by assumption) ?_
      rotate_left
      · refine Or.inl ⟨by rfl, ?_⟩
        (intro w hSw; (try dsimp only at hSw); go_simp; try with_reducible rfl)
      try simp only [Act.put, List.setIfInBounds_toArray, List.set_cons_zero, List.set_cons_succ]
      refine HeldT.tail (by kernel_rfl) rfl ?_
      clear hHeld
      go_wp2_with fail
      obtain ⟨wo, rfl⟩ : ∃ x, x = w5 := ⟨_, rfl⟩
      go_loopw [91] (fun i wr => ∃ q : Nat, q ≤ j ∧ i = .int .i64 q ∧ Hid (Below W.heap.size W wr)) (fun i _ => j - (intOf i).toNat)
      case atStart => exact ⟨0, Nat.zero_le _, rfl, HB5.out⟩
      case round =>
        obtain ⟨q, hq, rfl, HBW⟩ := hrel
        by_cases hlt : q < j
        · obtain ⟨g1, rfl, _, hg1, hc1⟩ := HR1.out (by omega)
          obtain ⟨g3, rfl, _, hg3, hc3⟩ := HR3.out (by omega)
          have hu : (ints us)[q]? = some (.int .i64 (us[q]'(by have := HUL.out; omega))) := by
            rw [ints, List.getElem?_map, List.getElem?_eq_getElem (by have := HUL.out; omega)]; rfl
          generalize us[q]'(by have := HUL.out; omega) = u at hu
          have d1 := (HBW.out.cell (p := ⟨g1, q, none⟩) hg1).trans (hc1 q _ hu)
          have d3 := (HBW.out.cell (p := ⟨g3, q, none⟩) hg3).trans (hc3 q _ hu)
          have hq0 : (0 : Int) ≤ q := by omega
          have hq1 : (q : Int) < j := by omega
          clear hc1 hc3 hu
          go_wp2_with fail
          go_quiet (fail)
          have HBN : Hid (Below W.heap.size W (wr.drewN nq)) := below_drewN HBW.out _
          go_wp2_with fail
          go_roundw
          case rel => exact ⟨q + 1, by omega, by go_num, HBN.out⟩
          case measure => simp [intOf]; omega
        · have hq1 : ¬ (q : Int) < j := by omega
          have HBF : Hid (Below w.heap.size w wr) := B4.out.trans (HBW.out.mono B4.out.size)
          go_wp2_with fail
          go_returns
          exact ⟨rfl, HBF.out⟩
end fnKeyed
end Go.Proofs.YtoimdbmjpkmkfaaDoor
