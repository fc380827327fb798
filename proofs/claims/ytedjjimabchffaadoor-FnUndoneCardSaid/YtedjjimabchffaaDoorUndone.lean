/- The walk of laws.FnUndone: inserting and taking out, step by step, is undone by the contrary steps in the other order. -/
import Derived.Test.YtedjjimabchffaaDoorUndonePlain
import Derived.Test.YtedjjimabchffaaDoorRowStrsB
import Derived.Test.YtedjjimabchffaaDoorRowInts
namespace Go.Proofs.YtedjjimabchffaaDoor
open Go.RowKit
set_option linter.unusedVariables false
set_option linter.unusedSimpArgs false

def cellsOf (es : List Ed) : List Value := es.flatMap Ed.cells
theorem cellsOf_cons (e : Ed) (es : List Ed) : cellsOf (e :: es) = e.cells ++ cellsOf es := rfl
theorem cellsOf_append (a b : List Ed) : cellsOf (a ++ b) = cellsOf a ++ cellsOf b := List.flatMap_append
theorem cellsOf_len : ∀ es : List Ed, (cellsOf es).length = es.length * 4
  | [] => rfl
  | e :: es => by rw [cellsOf_cons, List.length_append, cellsOf_len es]; simp [Ed.cells]; omega
theorem flat4 : ∀ (es : List Ed) (j : Nat) (e : Ed), es[j]? = some e → (cellsOf es)[j * 4]? = some (.int .i64 e.op) ∧ (cellsOf es)[j * 4 + 1]? = some (.int .i64 e.n) ∧ (cellsOf es)[j * 4 + 2]? = some (.string e.s) ∧ (cellsOf es)[j * 4 + 3]? = some (.bool e.f)
  | [], j, e, h => by simp at h
  | d :: es, 0, e, h => by
    obtain rfl : d = e := by simpa using h
    exact ⟨rfl, rfl, rfl, rfl⟩
  | d :: es, j + 1, e, h => by
    obtain ⟨h1, h2, h3, h4⟩ := flat4 es j e (by simpa using h)
    have hl : d.cells.length = 4 := rfl
    have q : ∀ i, (cellsOf (d :: es))[(j + 1) * 4 + i]? = (cellsOf es)[j * 4 + i]? := fun i => by
      rw [cellsOf_cons, List.getElem?_append_right (by omega), hl]; congr 1; omega
    exact ⟨(q 0).trans h1, (q 1).trans h2, (q 2).trans h3, (q 3).trans h4⟩

/-- A script that the call made. -/
theorem eds_of_owns {w : World} {base T : Nat} {v : Value} {n : Nat} {es : List Ed} (h : w.ownsRow base T 4 v n (cellsOf es)) :
    n = es.length ∧ ∃ A b cap, v = .slice A n cap ∧ (es = [] ∨ (A = some ⟨b, 0, none⟩ ∧ base ≤ b ∧ b < w.heap.size ∧ EdsAt w b 0 es)) := by
  obtain ⟨hl, ho⟩ := h
  rw [cellsOf_len] at hl
  have hn : n = es.length := by omega
  refine ⟨hn, ?_⟩
  rcases ho with ⟨rfl, h0⟩ | ⟨g, cap, cur, rfl, hg, hh, hn1, hcm, hcs, htk⟩
  · exact ⟨none, 0, 0, by rw [h0], .inl (List.length_eq_zero_iff.1 (by omega))⟩
  · refine ⟨_, g, cap, rfl, .inr ⟨rfl, hg, (Array.getElem?_eq_some_iff.1 hh).1, fun j e he => ?_⟩⟩
    have hj : j < es.length := (List.getElem?_eq_some_iff.1 he).1
    obtain ⟨h1, h2, h3, h4⟩ := flat4 es j e he
    have q : ∀ i, i < 4 → ∀ u, (cellsOf es)[j * 4 + i]? = some u → w.cell? ⟨g, 0 + j * 4 + i, none⟩ = some u := fun i hi u hu => by
      rw [World.cell?, hh]
      have := congrArg (·[j * 4 + i]?) htk
      simp only [List.getElem?_take_of_lt (show j * 4 + i < n * 4 by omega), hu] at this
      rw [Nat.zero_add]
      simpa using this
    exact ⟨q 0 (by omega) _ h1, q 1 (by omega) _ h2, q 2 (by omega) _ h3, q 3 (by omega) _ h4⟩

theorem cellsOf_snoc (es : List Ed) (e : Ed) : cellsOf (es ++ [e]) = cellsOf es ++ e.cells := by rw [cellsOf_append]; simp [cellsOf]
theorem own_snoc {w : World} {B T : Nat} {A : Option Addr} {cap : Nat} {es : List Ed} {e : Ed} (h : w.ownsRow B T 4 (.slice A (es.length + 1) cap) (es.length + 1) (cellsOf es ++ e.cells)) : w.ownsRow B T 4 (.slice A (es ++ [e]).length cap) (es ++ [e]).length (cellsOf (es ++ [e])) := by
  rw [cellsOf_snoc, List.length_append]; exact h
theorem own_snoc2 {w : World} {B T : Nat} {A : Option Addr} {cap : Nat} {es : List Ed} {e d : Ed} (h : w.ownsRow B T 4 (.slice A (es.length + 1 + 1) cap) (es.length + 1 + 1) (cellsOf es ++ (e.cells ++ d.cells))) : w.ownsRow B T 4 (.slice A (es ++ [e] ++ [d]).length cap) (es ++ [e] ++ [d]).length (cellsOf (es ++ [e] ++ [d])) := by
  rw [cellsOf_snoc, cellsOf_snoc, List.length_append, List.length_append, List.append_assoc (cellsOf es)]; exact h

/-- Texts that the call made, each at its place. -/
def TxtsAt (w : World) (A : Option Addr) (ts : List ByteArray) : Prop := ∀ m, m < ts.length → ∃ b, A = some ⟨b, 0, none⟩ ∧ b < w.heap.size ∧ w.cell? ⟨b, m, none⟩ = some (.string (ln ts m))
theorem TxtsAt.below {w w' : World} {A : Option Addr} {ts : List ByteArray} (h : TxtsAt w A ts) (hb : Below w.heap.size w w') : TxtsAt w' A ts := fun m hm => by
  obtain ⟨b, h1, h2, h3⟩ := h m hm
  exact ⟨b, h1, Nat.lt_of_lt_of_le h2 hb.size, (hb.cell (p := ⟨b, m, none⟩) h2).trans h3⟩
theorem strs_of_owns' {w : World} {B T : Nat} {v : Value} {ts : List ByteArray} (h : w.ownsRow B T 1 v ts.length (txts ts)) : ∀ A n c, v = .slice A n c → TxtsAt w A ts := by
  rintro A n c rfl m hm
  obtain ⟨_, g, cap, hv, _, hS⟩ := strs_of_owns h (by omega)
  cases hv
  exact ⟨g, rfl, hS.1, hS.2 m hm⟩

theorem infoEd : (Tryd.prog.info? 33).map (fun i => (i.zero, i.size, i.bytes)) = some (some (.agg #[.int .i64 0, .int .i64 0, .string ⟨#[]⟩, .bool false]), 4, 40) := by kernel_rfl

theorem news_ed (w : World) (e : Ed) (t : TypeId) : ∀ (j : Nat) (u : Value), (e.cells)[j]? = some u → (w.alloc (.cells #[.int .i64 e.op, .int .i64 e.n, .string e.s, .bool e.f] t)).cell? ((⟨w.heap.size, 0, none⟩ : Addr).add j) = some u := by
  intro j u h
  unfold Ed.cells at h
  match j, h with
  | 0, h => simp at h; subst h; simp [Addr.add]
  | 1, h => simp at h; subst h; simp [Addr.add]
  | 2, h => simp at h; subst h; simp [Addr.add]
  | 3, h => simp at h; subst h; simp [Addr.add]
  | j + 4, h => simp at h

theorem ed_one (e : Ed) : ∀ u ∈ e.cells, u.oneCell' = true := by
  intro u hu
  simp [Ed.cells] at hu
  rcases hu with rfl | rfl | rfl | rfl <;> rfl

def sizes (zs : List ByteArray) (j : Nat) : Nat := ((zs.take j).map ByteArray.size).sum
theorem sizes_succ (zs : List ByteArray) (j : Nat) (h : j < zs.length) : sizes zs (j + 1) = sizes zs j + (txt zs j).size := by
  unfold sizes
  rw [List.take_succ_eq_append_getElem h, List.map_append, List.sum_append]
  simp [txt, h]

theorem sizes_le (zs : List ByteArray) : ∀ j, j ≤ zs.length → (∀ i, i < j → Small (txt zs i)) → sizes zs j ≤ 1000 * j
  | 0, _, _ => by simp [sizes]
  | j + 1, hj, h => by
    rw [sizes_succ zs j (by omega)]
    have := sizes_le zs j (by omega) (fun i hi => h i (by omega))
    have := (h j (by omega)).2
    omega

namespace fnUndone
set_option maxRecDepth 100000 in
set_option maxHeartbeats 8000000 in
/-- The script is made. -/
theorem core (s : ByteArray) (k : Nat) (a1 : Option Addr) (cap1 : Nat) (zs : List ByteArray) (a2 : Option Addr) (cap2 : Nat) (cs : List Int) (w : World) (hs : Small s) (hk : k ≤ s.size)
    (h1 : IsStrs w a1 zs) (h2 : IsInts .u8 w a2 cs) (hc : ∀ c ∈ cs, 0 ≤ c ∧ c ≤ 255) (hz6 : zs.length ≤ 6) (hc6 : cs.length ≤ 6) (hzz : ∀ z ∈ zs, z.size ≤ 2147483647)
    (hfit : Calls Tryd.prog 15 #[.slice a1 zs.length cap1] (w.alloc (.cells #[.string s, .int .i64 (k : Nat)] 23) |>.alloc (.cells #[.string s, .int .i64 (k : Nat)] 23)) fun e w' => e = .returned (.bool true) ∧ (w.alloc (.cells #[.string s, .int .i64 (k : Nat)] 23) |>.alloc (.cells #[.string s, .int .i64 (k : Nat)] 23)) = w') :
    Calls Tryd.prog 8 #[.agg #[.string s, .int .i64 (k : Nat)], .slice a1 zs.length cap1, .slice a2 cs.length cap2] w fun e w' => e = .returned (.bool true) ∧ Below w.heap.size w w' := by
  obtain ⟨ib, hib, hz0, hz1, hz2⟩ := info_parts infoEd
  have hsz := hs.2
  have hR : Right s (k : Int) := ⟨hs, by omega, by omega⟩
  have HR := Go.Lib.hid hR
  have HS := Go.Lib.hid hs
  have H1 := Go.Lib.hid h1
  have H2 := Go.Lib.hid h2
  have HC := Go.Lib.hid hc
  have HZ := Go.Lib.hid hzz
  have HF := Go.Lib.hid hfit
  obtain ⟨n1, hn1⟩ : ∃ n, n = zs.length := ⟨_, rfl⟩
  obtain ⟨n2, hn2⟩ : ∃ n, n = cs.length := ⟨_, rfl⟩
  have N1 := Go.Lib.hid hn1
  have N2 := Go.Lib.hid hn2
  have q1 : (n1 : Int) ≤ 6 := by omega
  have q2 : (n2 : Int) ≤ 6 := by omega
  have q3 : ¬ (6 : Int) < n1 := by omega
  have q4 : ¬ (6 : Int) < n2 := by omega
  rw [← hn1, ← hn2]
  rw [← hn1] at hz6
  rw [← hn2] at hc6
  clear hR hs h1 h2 hc hzz hfit hn1 hn2
  go_enter Tryd.func8, Tryd.ntmps8
  go_wp2_with fail
  refine (fits2_yes s _ _ (by omega)).mono ?_
  rintro e w1 ⟨rfl, rfl⟩
  go_wp2_with fail
  rw [N1.out]
  refine HF.out.mono ?_
  rw [← N1.out]
  rintro e w1 ⟨rfl, rfl⟩
  go_wp2_with fail
  refine (right_yes s _ _ HR.out).mono ?_
  rintro e w1 ⟨rfl, rfl⟩
  have key : Hid (DocAt (((w.alloc (.cells #[.string s, .int .i64 (k : Nat)] 23)).alloc (.cells #[.string s, .int .i64 (k : Nat)] 23)).alloc (.cells #[.string s, .int .i64 (k : Nat)] 23)) w.heap.size s k ∧ Below w.heap.size w (((w.alloc (.cells #[.string s, .int .i64 (k : Nat)] 23)).alloc (.cells #[.string s, .int .i64 (k : Nat)] 23)).alloc (.cells #[.string s, .int .i64 (k : Nat)] 23))) :=
    ⟨⟨by simp [go_sem], by simp [go_sem], by simp <;> omega⟩, (((Below.refl w.heap.size w).alloc (Nat.le_refl _) _).alloc (by simp) _).alloc (by simp; omega) _⟩
  go_wp2_with fail
  generalize (((w.alloc (.cells #[.string s, .int .i64 (k : Nat)] 23)).alloc (.cells #[.string s, .int .i64 (k : Nat)] 23)).alloc (.cells #[.string s, .int .i64 (k : Nat)] 23)) = W at key ⊢
  have P1 : Hid (IsStrs W a1 zs) := H1.out.below key.out.2
  have P2 : Hid (IsInts .u8 W a2 cs) := H2.out.below key.out.2
  go_loop [7, 8] (fun t7 t8 => ∃ j : Nat, j ≤ n1 ∧ t8 = .int .i64 j ∧ t7 = .int .i64 ((s.size + sizes zs j : Nat) : Nat) ∧ Hid (∀ i, i < j → Small (txt zs i))) (fun _ t8 => n1 - (intOf t8).toNat)
  case atStart => exact ⟨0, Nat.zero_le _, rfl, by simp [sizes], fun i hi => by omega⟩
  case round =>
    obtain ⟨j, hj, rfl, rfl, HG⟩ := hrel
    have hsj : sizes zs j ≤ 1000 * j := sizes_le zs j (by rw [← N1.out]; exact hj) HG.out
    by_cases hlt : j < n1
    · rcases P1.out with e | ⟨b, off, rfl, hbl, hcl⟩
      · have := N1.out; rw [e] at this; simp at this; omega
      have hcj : W.cell? ⟨b, off + j, none⟩ = some (.string (txt zs j)) := hcl j (by rw [← N1.out]; exact hlt)
      have hxz := HZ.out (txt zs j) (txt_mem zs j (by rw [← N1.out]; exact hlt))
      have hss := sizes_succ zs j (by rw [← N1.out]; exact hlt)
      have HSS := Go.Lib.hid hss
      have hj0 : (0 : Int) ≤ j := by omega
      have hj1 : (j : Int) < n1 := by omega
      clear hcl hss
      by_cases hsm : Small (txt zs j)
      · have hx1 := hsm.2
        have HSM := Go.Lib.hid hsm
        clear hsm
        have hadd : IntKind.i64.wrap (((s.size + sizes zs j : Nat) : Int) + ((txt zs j).size : Int)) = ((s.size + sizes zs (j + 1) : Nat) : Int) := by rw [HSS.out, IntWalk.i64_in _ (by omega)]; omega
        generalize hX : s.size + sizes zs j = X at hadd
        generalize hY : s.size + sizes zs (j + 1) = Y at hadd
        have HX := Go.Lib.hid hX
        have HY := Go.Lib.hid hY
        clear hX hY
        go_wp2_with fail
        refine (ascii_yes _ _ HSM.out).mono ?_
        rintro e w1 ⟨rfl, rfl⟩
        go_wp2_with fail
        go_round
        case rel => exact ⟨j + 1, by omega, by go_num, by rw [HY.out], fun i hi => by
          by_cases e : i < j
          · exact HG.out i e
          · obtain rfl : i = j := by omega
            exact HSM.out⟩
        case measure => simp [intOf]; omega
      · have HSM := Go.Lib.hid hsm
        clear hsm
        go_wp2_with fail
        refine (ascii_no _ _ (by omega) HSM.out).mono ?_
        rintro e w1 ⟨rfl, rfl⟩
        go_wp2_with fail
        go_returns
        exact ⟨rfl, key.out.2⟩
    · obtain rfl : j = n1 := by omega
      have hj1 : ¬ (j : Int) < j := by omega
      by_cases h9 : (900 : Int) < ((s.size + sizes zs j : Nat) : Int)
      · generalize s.size + sizes zs j = X at h9
        go_wp2_with fail
        go_returns
        exact ⟨rfl, key.out.2⟩
      · have H9 : Hid (s.size + sizes zs j ≤ 900) := by show _ ≤ _; omega
        -- SECOND LOOP
        generalize s.size + sizes zs j = X at h9
        have HALL : Hid (∀ z ∈ zs, IsAscii z) := fun z hz => by
          obtain ⟨i, hi, rfl⟩ := mem_txt zs z hz
          exact (HG.out i (by have := N1.out; omega)).1
        have HTOT : Hid (s.size + ((zs.map ByteArray.size).sum) ≤ 900) := by
          have h := H9.out
          unfold sizes at h
          rw [List.take_of_length_le (by have := N1.out; omega)] at h
          exact h
        clear HG hsj
        go_wp2_with fail
        go_loopw [9, 10] (fun t9 t10 wr => ∃ (i : Nat) (A : Option Addr) (cap : Nat), i ≤ 6 ∧ t10 = .int .i64 i ∧ t9 = .slice A (alts zs cs i).length cap ∧ wr.ownsRow W.heap.size 33 4 (.slice A (alts zs cs i).length cap) (alts zs cs i).length (cellsOf (alts zs cs i)) ∧ Below W.heap.size W wr) (fun _ t10 _ => 6 - (intOf t10).toNat)
        case atStart => exact ⟨0, none, 0, by omega, rfl, rfl, World.ownsRow_nil _ _ _ _, Below.refl _ _⟩
        case round =>
          obtain ⟨i, A, cap, hi, rfl, rfl, hown, hb⟩ := hrel
          have hal := alts_len zs cs i
          have hbs := hb.size
          have HST : Hid (alts zs cs (i + 1) = alts zs cs i ++ (if i < j then [⟨1, 0, txt zs i, false⟩] else []) ++ (if i < n2 then [⟨7, nth cs i, ⟨#[]⟩, false⟩] else [])) := by
            have e1 : (i < j) = (i < zs.length) := by rw [N1.out]
            have e2 : (i < n2) = (i < cs.length) := by rw [N2.out]
            rw [Hid, alts]
            simp only [e1, e2]
          have HFULL : Hid (j ≤ i → n2 ≤ i → total (alts zs cs i) = (zs.map ByteArray.size).sum) := fun h1 h2 => by
            rw [alts_total, List.take_of_length_le (by have := N1.out; omega)]
          have HOKS : Hid (∀ e ∈ alts zs cs i, Alt e) := alts_ok zs cs HALL.out HC.out i
          obtain ⟨es2, hES2⟩ : ∃ x, x = alts zs cs (i + 1) := ⟨_, rfl⟩
          rw [← hES2] at HST
          have HES2 := Go.Lib.hid hES2
          generalize alts zs cs i = es at hown hal HST HFULL HOKS
          clear hES2
          have hi0 : (0 : Int) ≤ i := by omega
          by_cases c1 : i < j
          · by_cases c2 : i < n2
            · rcases P1.out with e | ⟨b, off, rfl, hbl, hcl⟩
              · have := N1.out; rw [e] at this; simp at this; omega
              have hct : wr.cell? ⟨b, off + i, none⟩ = some (.string (txt zs i)) := (hb.cell (p := ⟨b, off + i, none⟩) hbl).trans (hcl i (by have := N1.out; omega))
              have HX := Go.Lib.hid (rfl : txt zs i = txt zs i)
              generalize txt zs i = x at hct HST
              clear hcl HX
              have hi1 : (i : Int) < j := by omega
              rcases P2.out with e | ⟨b2, off2, rfl, hbl2, hcl2⟩
              · have := N2.out; rw [e] at this; simp at this; omega
              have hcc : ∀ w', Below W.heap.size W w' → w'.cell? ⟨b2, off2 + i, none⟩ = some (.int .u8 (nth cs i)) := fun w' h => (h.cell (p := ⟨b2, off2 + i, none⟩) hbl2).trans (hcl2 i (by have := N2.out; omega))
              obtain ⟨cb0, cb1⟩ := HC.out (nth cs i) (nth_mem cs i (by have := N2.out; omega))
              generalize nth cs i = c at hcc cb0 cb1 HST
              have HCC := Go.Lib.hid hcc
              have hwc : IntKind.i64.wrap c = c := IntWalk.i64_in _ (by omega)
              clear hcl2 hcc
              have hi2 : (i : Int) < n2 := by omega
              go_wp2_with (at_builtin; refine wpList_append_lies _ rfl (.tmp 85) (.tmp 91) 34 rfl (W.heap.size) 33 ib (.agg #[.int .i64 0, .int .i64 0, .string ⟨#[]⟩, .bool false]) 4 40 Tryd.underlying34 hib hz0 hz1 hz2 rfl (by decide) _ _ _ rfl (hown.alloc _) ⟨wr.heap.size, 0, none⟩ 1 1 (Ed.cells ⟨1, 0, x, false⟩) rfl rfl (news_ed wr ⟨1, 0, x, false⟩ _) (ed_one _) (by decide) ?a111 ?a112 ?a113 _ rfl ?_)
              case a111 => unfold maxLen; omega
              case a112 => omega
              case a113 => (try simp); omega
              intro g1 cp1 w1 hown1 hgrow1 _ _
              have hb1 : Below W.heap.size W w1 := (hb.alloc hb.size _).grown hgrow1 (by have := hb.size; simp; omega) (fun q hq => (hown.lt q hq).1)
              have hcw := HCC.out w1 hb1
              have hz11 := hb1.size
              clear hgrow1
              go_wp2_with (at_builtin; refine wpList_append_lies _ rfl (.tmp 97) (.tmp 104) 34 rfl (W.heap.size) 33 ib (.agg #[.int .i64 0, .int .i64 0, .string ⟨#[]⟩, .bool false]) 4 40 Tryd.underlying34 hib hz0 hz1 hz2 rfl (by decide) _ _ _ rfl (hown1.alloc _) ⟨w1.heap.size, 0, none⟩ 1 1 (Ed.cells ⟨7, c, ⟨#[]⟩, false⟩) rfl rfl (news_ed w1 ⟨7, c, ⟨#[]⟩, false⟩ _) (ed_one _) (by decide) ?b111 ?b112 ?b113 _ rfl ?_)
              case b111 => unfold maxLen; omega
              case b112 => omega
              case b113 => (try simp); omega
              intro g2 cp2 w2 hown2 hgrow2 _ _
              have hb2 : Below W.heap.size W w2 := (hb1.alloc hb1.size _).grown hgrow2 (by have := hb1.size; simp; omega) (fun q hq => (hown1.lt q hq).1)
              have hz22 := hb2.size
              clear hgrow2
              go_wp2_with fail
              go_roundw
              case rel =>
                have hst : es2 = es ++ [⟨1, 0, x, false⟩] ++ [⟨7, c, ⟨#[]⟩, false⟩] := by have h := HST.out; rw [if_pos c1, if_pos c2] at h; simpa using h
                refine ⟨i + 1, some ⟨g2, 0, none⟩, cp2, by omega, by go_num, ?_, ?_, hb2⟩
                · rw [← HES2.out, hst]; simp
                · rw [← HES2.out, hst]; exact own_snoc2 hown2
              case measure => simp [intOf]; omega
            · rcases P1.out with e | ⟨b, off, rfl, hbl, hcl⟩
              · have := N1.out; rw [e] at this; simp at this; omega
              have hct : wr.cell? ⟨b, off + i, none⟩ = some (.string (txt zs i)) := (hb.cell (p := ⟨b, off + i, none⟩) hbl).trans (hcl i (by have := N1.out; omega))
              have HX := Go.Lib.hid (rfl : txt zs i = txt zs i)
              generalize txt zs i = x at hct HST
              clear hcl HX
              have hi1 : (i : Int) < j := by omega
              have hi2 : ¬ (i : Int) < n2 := by omega
              go_wp2_with (at_builtin; refine wpList_append_lies _ rfl (.tmp 85) (.tmp 91) 34 rfl (W.heap.size) 33 ib (.agg #[.int .i64 0, .int .i64 0, .string ⟨#[]⟩, .bool false]) 4 40 Tryd.underlying34 hib hz0 hz1 hz2 rfl (by decide) _ _ _ rfl (hown.alloc _) ⟨wr.heap.size, 0, none⟩ 1 1 (Ed.cells ⟨1, 0, x, false⟩) rfl rfl (news_ed wr ⟨1, 0, x, false⟩ _) (ed_one _) (by decide) ?a101 ?a102 ?a103 _ rfl ?_)
              case a101 => unfold maxLen; omega
              case a102 => omega
              case a103 => (try simp); omega
              intro g1 cp1 w1 hown1 hgrow1 _ _
              have hb1 : Below W.heap.size W w1 := (hb.alloc hb.size _).grown hgrow1 (by have := hb.size; simp; omega) (fun q hq => (hown.lt q hq).1)
              have hz11 := hb1.size
              clear hgrow1
              go_wp2_with fail
              go_roundw
              case rel =>
                have hst : es2 = es ++ [⟨1, 0, x, false⟩] := by have h := HST.out; rw [if_pos c1, if_neg c2] at h; simpa using h
                refine ⟨i + 1, some ⟨g1, 0, none⟩, cp1, by omega, by go_num, ?_, ?_, hb1⟩
                · rw [← HES2.out, hst]; simp
                · rw [← HES2.out, hst]; exact own_snoc hown1
              case measure => simp [intOf]; omega
          · by_cases c2 : i < n2
            · have hi1 : ¬ (i : Int) < j := by omega
              rcases P2.out with e | ⟨b2, off2, rfl, hbl2, hcl2⟩
              · have := N2.out; rw [e] at this; simp at this; omega
              have hcc : ∀ w', Below W.heap.size W w' → w'.cell? ⟨b2, off2 + i, none⟩ = some (.int .u8 (nth cs i)) := fun w' h => (h.cell (p := ⟨b2, off2 + i, none⟩) hbl2).trans (hcl2 i (by have := N2.out; omega))
              obtain ⟨cb0, cb1⟩ := HC.out (nth cs i) (nth_mem cs i (by have := N2.out; omega))
              generalize nth cs i = c at hcc cb0 cb1 HST
              have HCC := Go.Lib.hid hcc
              have hwc : IntKind.i64.wrap c = c := IntWalk.i64_in _ (by omega)
              clear hcl2 hcc
              have hi2 : (i : Int) < n2 := by omega
              have hcw := HCC.out wr hb
              go_wp2_with (at_builtin; refine wpList_append_lies _ rfl (.tmp 97) (.tmp 104) 34 rfl (W.heap.size) 33 ib (.agg #[.int .i64 0, .int .i64 0, .string ⟨#[]⟩, .bool false]) 4 40 Tryd.underlying34 hib hz0 hz1 hz2 rfl (by decide) _ _ _ rfl (hown.alloc _) ⟨wr.heap.size, 0, none⟩ 1 1 (Ed.cells ⟨7, c, ⟨#[]⟩, false⟩) rfl rfl (news_ed wr ⟨7, c, ⟨#[]⟩, false⟩ _) (ed_one _) (by decide) ?b011 ?b012 ?b013 _ rfl ?_)
              case b011 => unfold maxLen; omega
              case b012 => omega
              case b013 => (try simp); omega
              intro g1 cp1 w1 hown1 hgrow1 _ _
              have hb1 : Below W.heap.size W w1 := (hb.alloc hb.size _).grown hgrow1 (by have := hb.size; simp; omega) (fun q hq => (hown.lt q hq).1)
              have hz11 := hb1.size
              clear hgrow1
              go_wp2_with fail
              go_roundw
              case rel =>
                have hst : es2 = es ++ [⟨7, c, ⟨#[]⟩, false⟩] := by have h := HST.out; rw [if_neg c1, if_pos c2] at h; simpa using h
                refine ⟨i + 1, some ⟨g1, 0, none⟩, cp1, by omega, by go_num, ?_, ?_, hb1⟩
                · rw [← HES2.out, hst]; simp
                · rw [← HES2.out, hst]; exact own_snoc hown1
              case measure => simp [intOf]; omega
            · have hi1 : ¬ (i : Int) < j := by omega
              have hi2 : ¬ (i : Int) < n2 := by omega
              have htot : total es ≤ 900 := by have := HFULL.out (by omega) (by omega); have := HTOT.out; omega
              have htot2 : s.size + total es ≤ 1000 := by have := HFULL.out (by omega) (by omega); have := HTOT.out; omega
              obtain ⟨ts, s', k', hch, ha', hk', hz', us, hback⟩ := alt_chain es s k HOKS.out HS.out.1 hk htot2
              obtain ⟨hnn, A2, b, cap2, hAA, hA⟩ := eds_of_owns hown
              have hAA2 : A = A2 := by simpa using congrArg (fun v => match v with | Value.slice a _ _ => a | _ => none) hAA
              rw [← hAA2] at hA
              have HA := Go.Lib.hid hA
              have HCH := Go.Lib.hid hch
              have HBK := Go.Lib.hid hback
              have HLN : Hid (ts.length = es.length) := hch.len
              have HS2 : Hid (Small s') := ⟨ha', by omega⟩
              clear hch hback hA hAA hAA2 hnn ha' htot htot2 HFULL HST HES2
              obtain ⟨y0, y1, y2⟩ := key.out.1.below hb
              go_wp2_with fail
              refine (edited_any b 0 A cap es ts s s' k k' wr HS.out hk ?_ HCH.out (by omega)).mono ?_
              · rcases HA.out with h | ⟨h1, _, h2, h3⟩
                · exact .inl h
                · exact .inr ⟨h1, h2, h3⟩
              rintro e w5 ⟨v5, he, hown5, b5⟩
              have HTX := Go.Lib.hid (strs_of_owns' hown5)
              obtain ⟨A5, n5, c5, hv5⟩ : ∃ a n c, v5 = .slice a n c := by
                rcases hown5.2 with ⟨h, _⟩ | ⟨g, cap, cur, h, _⟩ <;> exact ⟨_, _, _, h⟩
              have hn5 : n5 = ts.length := by
                rcases hown5.2 with ⟨h, h0⟩ | ⟨g, cap, cur, h, _⟩
                · rw [h] at hv5; cases hv5; omega
                · rw [h] at hv5; cases hv5; rfl
              subst hv5
              subst hn5
              subst he
              have B5 : Hid (Below W.heap.size W w5) := hb.trans (b5.mono hbs)
              have HA5 : Hid (es = [] ∨ (A = some ⟨b, 0, none⟩ ∧ b < w5.heap.size ∧ EdsAt w5 b 0 es)) := by
                rcases HA.out with h | ⟨h1, _, h2, h3⟩
                · exact .inl h
                · exact .inr ⟨h1, Nat.lt_of_lt_of_le h2 b5.size, h3.of (b5.block b h2)⟩
              have hlen : ((ts.length : Int) != (es.length : Int)) = false := by have := HLN.out; simp; omega
              have hwn : IntKind.i64.wrap ((es.length : Int) - 1) = (es.length : Int) - 1 := IntWalk.i64_in _ (by omega)
              clear hown5 b5 HA hown
              go_wp2_with fail
              have key2 : Hid (DocAt (w5.alloc (.cells #[.string s', .int .i64 (k' : Nat)] 23)) w5.heap.size s' k' ∧ DocAt (w5.alloc (.cells #[.string s', .int .i64 (k' : Nat)] 23)) w.heap.size s k ∧ Below W.heap.size W (w5.alloc (.cells #[.string s', .int .i64 (k' : Nat)] 23)) ∧ (es = [] ∨ (A = some ⟨b, 0, none⟩ ∧ b < (w5.alloc (.cells #[.string s', .int .i64 (k' : Nat)] 23)).heap.size ∧ EdsAt (w5.alloc (.cells #[.string s', .int .i64 (k' : Nat)] 23)) b 0 es)) ∧ TxtsAt (w5.alloc (.cells #[.string s', .int .i64 (k' : Nat)] 23)) A5 ts) := by
                have hb6 : Below w5.heap.size w5 (w5.alloc (.cells #[.string s', .int .i64 (k' : Nat)] 23)) := (Below.refl _ _).alloc (Nat.le_refl _) _
                refine ⟨⟨by simp [go_sem], by simp [go_sem], by simp⟩, (key.out.1.below B5.out).below hb6, B5.out.trans (hb6.mono B5.out.size), ?_, (HTX.out _ _ _ rfl).below hb6⟩
                rcases HA5.out with h | ⟨h1, h2, h3⟩
                · exact .inl h
                · exact .inr ⟨h1, Nat.lt_of_lt_of_le h2 hb6.size, h3.of (hb6.block b h2)⟩
              generalize (w5.alloc (.cells #[.string s', .int .i64 (k' : Nat)] 23)) = W6 at key2 ⊢
              obtain ⟨o0, o1, o2⟩ := key2.out.1
              go_loopw [14, 15] (fun t14 t15 wr => ∃ (m : Nat) (z : Int) (A' : Option Addr) (cap' : Nat), m ≤ es.length ∧ z + 1 ≤ m ∧ (m : Int) ≤ z + 1 ∧ t15 = .int .i64 z ∧ t14 = .slice A' (backs es ts m).length cap' ∧ wr.ownsRow W6.heap.size 33 4 (.slice A' (backs es ts m).length cap') (backs es ts m).length (cellsOf (backs es ts m)) ∧ Below W6.heap.size W6 wr) (fun _ t15 _ => (intOf t15 + 1).toNat)
              case atStart =>
                refine ⟨es.length, _, none, 0, Nat.le_refl _, by omega, by omega, rfl, ?_, ?_, Below.refl _ _⟩
                · rw [backs_end es ts _ (Nat.le_refl _)]; rfl
                · rw [backs_end es ts _ (Nat.le_refl _)]; exact World.ownsRow_nil _ _ _ _
              case round =>
                obtain ⟨m, z, A', cap', hm, hz, hz', rfl, rfl, hownB, hbB⟩ := hrel
                have hbl := backs_len es ts m
                have hbBs := hbB.size
                match m, hm, hz, hz', hownB, hbl with
                | 0, hm, hz, hz', hownB, hbl =>
                  have hz1 : z < 0 := by omega
                  clear hz hz'
                  obtain ⟨hnn, A3, b3, cap3, hAA, hA⟩ := eds_of_owns hownB
                  have hAA2 : A' = A3 := by simpa using congrArg (fun v => match v with | Value.slice a _ _ => a | _ => none) hAA
                  rw [← hAA2] at hA
                  have HA := Go.Lib.hid hA
                  have HD0 : Hid (backs es ts 0 = (List.zipWith back es ts).reverse) := rfl
                  have HBC : Hid (Chain (backs es ts 0) s' k' us s k) := by rw [HD0.out]; exact HBK.out
                  generalize backs es ts 0 = bs at hownB hbl HA HBC
                  clear hnn hA hAA hAA2 hownB
                  obtain ⟨p0, p1, p2⟩ := key2.out.1.below hbB
                  clear o0 o1
                  go_wp2_with fail
                  refine (edited_any b3 0 A' cap' bs us s' s k' k wr HS2.out hk' ?_ HBC.out (by omega)).mono ?_
                  · rcases HA.out with h | ⟨h1, _, h2, h3⟩
                    · exact .inl h
                    · exact .inr ⟨h1, h2, h3⟩
                  rintro e w7 ⟨v7, he, hown7, b7⟩
                  obtain ⟨A7, n7, c7, hv7⟩ : ∃ a n c, v7 = .slice a n c := by
                    rcases hown7.2 with ⟨h, _⟩ | ⟨g, cap, cur, h, _⟩ <;> exact ⟨_, _, _, h⟩
                  subst hv7
                  subst he
                  obtain ⟨d0, d1, d2⟩ := (key2.out.2.1.below hbB).below b7
                  have hne : ¬ w.heap.size = w7.heap.size := by omega
                  have B7 : Hid (Below w.heap.size w w7) := (key.out.2.trans (key2.out.2.2.1.mono key.out.2.size)).trans ((hbB.mono (by have := key.out.2.size; have := key2.out.2.2.1.size; omega)).trans (b7.mono (by have := key.out.2.size; have := key2.out.2.2.1.size; omega)))
                  clear hown7 b7 p0 p1
                  go_wp2_with fail
                  go_returns
                  exact ⟨rfl, B7.out.alloc B7.out.size _⟩
                | m + 1, hm, hz, hz', hownB, hbl =>
                  obtain rfl : z = (m : Int) := by omega
                  clear hz hz'
                  rcases key2.out.2.2.2.1 with e | ⟨rfl, hbq, heds⟩
                  · rw [e] at hm; simp at hm
                  have he : es[m]? = some es[m] := List.getElem?_eq_getElem (by omega)
                  have hts : ts[m]? = some (ts[m]'(by have := HLN.out; omega)) := List.getElem?_eq_getElem _
                  obtain ⟨q0, _, q2, _⟩ := heds m _ he
                  obtain ⟨b8, rfl, hb8, hc8⟩ := key2.out.2.2.2.2 m (by have := HLN.out; omega)
                  have HBS := Go.Lib.hid (backs_step es ts m _ _ he hts)
                  have hall := HOKS.out es[m] (List.getElem_mem _)
                  have htx : ln ts m = ts[m]'(by have := HLN.out; omega) := ln_eq ts m _
                  rw [htx] at hc8
                  generalize ts[m]'(by have := HLN.out; omega) = t at hc8 HBS hts
                  generalize es[m] = e at he q0 q2 HBS hall
                  obtain ⟨op, n, str, fl⟩ := e
                  rw [Nat.zero_add] at q0 q2
                  have r0 := (hbB.cell (p := ⟨b, m * 4, none⟩) hbq).trans q0
                  have r2 := (hbB.cell (p := ⟨b, m * 4 + 2, none⟩) hbq).trans q2
                  have r8 := (hbB.cell (p := ⟨b8, m, none⟩) hb8).trans hc8
                  have hm0 : (0 : Int) ≤ m := by omega
                  have hm1 : (m : Int) < es.length := by omega
                  have hm2 : (m : Int) < ts.length := by have := HLN.out; omega
                  have hwm : IntKind.i64.wrap ((m : Int) - 1) = (m : Int) - 1 := IntWalk.i64_in _ (by omega)
                  obtain ⟨bs1, hbs1⟩ : ∃ x, x = backs es ts m := ⟨_, rfl⟩
                  rw [← hbs1] at HBS
                  have HB1 := Go.Lib.hid hbs1
                  generalize backs es ts (m + 1) = bs at hownB hbl HBS
                  simp only at r0 r2
                  clear q0 q2 hc8 he hts htx hbs1 o0 o1
                  rcases hall with ⟨rfl, _, _, _⟩ | ⟨n', rfl, _, _, _, _⟩
                  · have HBQ : Hid (bs1 = bs ++ [⟨7, (str.size : Nat), ⟨#[]⟩, false⟩]) := HBS.out
                    go_wp2_with (at_builtin; refine wpList_append_lies _ rfl (.tmp 135) (.tmp 143) 34 rfl (W6.heap.size) 33 ib (.agg #[.int .i64 0, .int .i64 0, .string ⟨#[]⟩, .bool false]) 4 40 Tryd.underlying34 hib hz0 hz1 hz2 rfl (by decide) _ _ _ rfl (hownB.alloc _) ⟨wr.heap.size, 0, none⟩ 1 1 (Ed.cells ⟨7, (str.size : Nat), ⟨#[]⟩, false⟩) rfl rfl (news_ed wr ⟨7, (str.size : Nat), ⟨#[]⟩, false⟩ _) (ed_one _) (by decide) ?q11 ?q12 ?q13 _ rfl ?_)
                    case q11 => unfold maxLen; omega
                    case q12 => omega
                    case q13 => (try simp); omega
                    intro g1 cp1 w8 hown8 hgrow8 _ _
                    have hb9 : Below W6.heap.size W6 w8 := (hbB.alloc hbBs _).grown hgrow8 (by simp; omega) (fun q hq => (hownB.lt q hq).1)
                    clear hgrow8
                    go_wp2_with fail
                    go_roundw
                    case rel =>
                      refine ⟨m, _, some ⟨g1, 0, none⟩, cp1, by omega, by omega, by omega, rfl, ?_, ?_, hb9⟩
                      · rw [← HB1.out, HBQ.out]; simp
                      · rw [← HB1.out, HBQ.out]; exact own_snoc hown8
                    case measure => simp [intOf]
                  · have HBQ : Hid (bs1 = bs ++ [⟨1, 0, t, false⟩]) := HBS.out
                    go_wp2_with (at_builtin; refine wpList_append_lies _ rfl (.tmp 145) (.tmp 151) 34 rfl (W6.heap.size) 33 ib (.agg #[.int .i64 0, .int .i64 0, .string ⟨#[]⟩, .bool false]) 4 40 Tryd.underlying34 hib hz0 hz1 hz2 rfl (by decide) _ _ _ rfl (hownB.alloc _) ⟨wr.heap.size, 0, none⟩ 1 1 (Ed.cells ⟨1, 0, t, false⟩) rfl rfl (news_ed wr ⟨1, 0, t, false⟩ _) (ed_one _) (by decide) ?q21 ?q22 ?q23 _ rfl ?_)
                    case q21 => unfold maxLen; omega
                    case q22 => omega
                    case q23 => (try simp); omega
                    intro g1 cp1 w8 hown8 hgrow8 _ _
                    have hb9 : Below W6.heap.size W6 w8 := (hbB.alloc hbBs _).grown hgrow8 (by simp; omega) (fun q hq => (hownB.lt q hq).1)
                    clear hgrow8
                    go_wp2_with fail
                    go_roundw
                    case rel =>
                      refine ⟨m, _, some ⟨g1, 0, none⟩, cp1, by omega, by omega, by omega, rfl, ?_, ?_, hb9⟩
                      · rw [← HB1.out, HBQ.out]; simp
                      · rw [← HB1.out, HBQ.out]; exact own_snoc hown8
                    case measure => simp [intOf]
end fnUndone
end Go.Proofs.YtedjjimabchffaaDoor
