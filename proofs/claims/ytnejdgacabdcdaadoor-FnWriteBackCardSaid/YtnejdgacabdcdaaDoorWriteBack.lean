/- The walk of laws.FnWriteBack. -/
import Derived.Test.YtnejdgacabdcdaaDoorWriteParts
namespace Go.Proofs.YtnejdgacabdcdaaDoor
open Go.RowKit
set_option linter.unusedVariables false
set_option linter.unusedSimpArgs false

def k1_ (a : ByteArray) : Ky := ⟨1, a, 0, false, false⟩
def k3_ : Ky := ⟨3, ⟨#[]⟩, 0, false, false⟩
def k7_ : Ky := ⟨7, ⟨#[]⟩, 0, false, false⟩
theorem flat_append (a b : List Ky) : flat (a ++ b) = flat a ++ flat b := by simp [flat]
theorem flat_more (x e : Ky) (j : Nat) : flat (x :: List.replicate (j + 1) e) = flat (x :: List.replicate j e) ++ flat [e] := by
  rw [← flat_append]; congr 1; rw [List.replicate_succ']; rfl

theorem back_chain (L : List Int) (hL : L.length ≤ 100000) : ∀ (n k : Nat), n ≤ k → k ≤ L.length → Chain (List.replicate n k3_) L k [] (List.replicate n (-1)) L (k - n) []
  | 0, k, _, _ => .nil _ _ _
  | n + 1, k, h, hk => by
    have h1 := key_backward L k [] hk hL ⟨#[]⟩ 0 false false
    have h2 := back_chain L hL n (k - 1) (by omega) (by omega)
    rw [show k - 1 - n = k - (n + 1) by omega] at h2
    exact .cons h1 h2

theorem take_chain : ∀ (n : Nat) (L : List Int) (k : Nat), L.length ≤ 100000 → n ≤ k → k ≤ L.length → Chain (List.replicate n k7_) L k [] (List.replicate n (-1)) (L.take (k - n) ++ L.drop k) (k - n) []
  | 0, L, k, _, _, _ => by rw [Nat.sub_zero, List.take_append_drop]; exact .nil _ _ _
  | n + 1, L, k, hL, h, hk => by
    have h1 := key_backspace L k [] hk hL (by omega) ⟨#[]⟩ 0 false false
    have e : cutAt L (k - 1) = L.take (k - 1) ++ L.drop k := by unfold cutAt; rw [show k - 1 + 1 = k by omega]
    rw [e] at h1
    have h2 := take_chain n (L.take (k - 1) ++ L.drop k) (k - 1) (by simp; omega) (by omega) (by simp; omega)
    have hl : (L.take (k - 1)).length = k - 1 := by simp; omega
    rw [show k - 1 - n = k - (n + 1) by omega, List.drop_left' hl, List.take_append_of_le_length (by omega), List.take_take, Nat.min_eq_left (by omega)] at h2
    exact .cons h1 h2

theorem own_grown {w w' : World} {base : Nat} {e : TypeId} {z g n cap : Nat} {xs : List Value} (h : w.ownsRow base e z (.slice (some ⟨g, 0, none⟩) n cap) n xs) {row : Option Nat} (hg : w.grownBy w' row) (hne : row ≠ some g) : w'.ownsRow base e z (.slice (some ⟨g, 0, none⟩) n cap) n xs := by
  refine ⟨h.1, ?_⟩
  rcases h.2 with ⟨h0, _⟩ | ⟨g', c, cur, hv, hb, hh, r⟩
  · cases h0
  · cases hv
    exact .inr ⟨g, cap, cur, rfl, hb, by rw [hg.block g (Array.getElem?_eq_some_iff.1 hh).1 (fun e => hne e.symm)]; exact hh, r⟩

/-- after9 at steps that the call owns. -/
theorem after_row (s : ByteArray) (k : Nat) (es : List Ky) (ts l' kept' : List Int) (k' : Nat) (out : ByteArray) (hs : s.size ≤ 100000) (hA : IsAscii s) (hk : k ≤ s.size) (hc : Chain es (runes s) k [] ts l' k' kept') (ho : runesBytes l' = out) (hl : l'.length ≤ 100000) (hes : es.length ≤ 1000000) (hn0 : 0 < es.length) :
    ∀ (w : World) (base g n cap : Nat), w.ownsRow base 28 5 (.slice (some ⟨g, 0, none⟩) n cap) n (flat es) → n = es.length → Calls Tryd.prog 13 #[.agg #[.string s, .int .i64 (k : Nat)], .slice (some ⟨g, 0, none⟩) n cap] w (NewPost out k' w) := fun w base g n cap ho' hn => by
  subst ho
  subst hn
  have hlt : g < w.heap.size := by
    rcases ho'.2 with ⟨h0, _⟩ | ⟨g', c, cur, hv, hb, hh, r⟩
    · cases h0
    · cases hv; exact (Array.getElem?_eq_some_iff.1 hh).1
  exact after_any9 g 0 cap s k es ts l' kept' k' w hlt (kys_owned ho') hs (by rw [runes_ascii_length s hA]; exact hk) hc hes hn0 hl

/-- Two rows of steps. -/
def Two (w0 : World) (a : ByteArray) (j g5 c5 g6 c6 : Nat) (wr : World) : Prop :=
  wr.ownsRow w0.heap.size 28 5 (.slice (some ⟨g5, 0, none⟩) (j + 1) c5) (j + 1) (flat (k1_ a :: List.replicate j k3_)) ∧
  wr.ownsRow w0.heap.size 28 5 (.slice (some ⟨g6, 0, none⟩) (j + 1) c6) (j + 1) (flat (k1_ a :: List.replicate j k7_)) ∧ g5 ≠ g6 ∧ Below w0.heap.size w0 wr

theorem own_lt {w : World} {base : Nat} {e : TypeId} {z g n cap : Nat} {xs : List Value} (h : w.ownsRow base e z (.slice (some ⟨g, 0, none⟩) n cap) n xs) : base ≤ g ∧ g < w.heap.size := by
  rcases h.2 with ⟨h0, _⟩ | ⟨g', c, cur, hv, hb, hh, r⟩
  · cases h0
  · cases hv; exact ⟨hb, (Array.getElem?_eq_some_iff.1 hh).1⟩

theorem own_new (w : World) (base : Nat) (e : Ky) (cs : Array Value) (hb : base ≤ w.heap.size) (hcs : cs.toList = flat [e]) : (w.alloc (.cells cs 28)).ownsRow base 28 5 (.slice (some ⟨w.heap.size, 0, none⟩) 1 1) 1 (flat [e]) :=
  ⟨rfl, .inr ⟨w.heap.size, 1, cs, rfl, hb, heap_alloc_new w _, Nat.le_refl _, by decide, by rw [← Array.length_toList, hcs]; rfl, by rw [hcs]; rfl⟩⟩

theorem two_start (w0 : World) (a : ByteArray) : Two w0 a 0 w0.heap.size 1 (w0.heap.size + 1) 1 ((w0.alloc (.cells #[.int .i64 1, .string a, .int .i64 0, .bool false, .bool false] 28)).alloc (.cells #[.int .i64 1, .string a, .int .i64 0, .bool false, .bool false] 28)) := by
  have h1 := own_new w0 w0.heap.size (k1_ a) #[.int .i64 1, .string a, .int .i64 0, .bool false, .bool false] (Nat.le_refl _) rfl
  have h2 := own_new (w0.alloc (.cells #[.int .i64 1, .string a, .int .i64 0, .bool false, .bool false] 28)) w0.heap.size (k1_ a) #[.int .i64 1, .string a, .int .i64 0, .bool false, .bool false] (by simp) rfl
  rw [show (w0.alloc (.cells #[.int .i64 1, .string a, .int .i64 0, .bool false, .bool false] 28)).heap.size = w0.heap.size + 1 by simp] at h2
  exact ⟨h1.alloc _, h2, by omega, ((Below.refl _ _).alloc (Nat.le_refl _) _).alloc (by simp) _⟩

theorem two_next {w0 wr w3 w5 : World} {a : ByteArray} {j g5 c5 g6 c6 g2 c2 g4 c4 : Nat} {o o' : Obj} (h : Two w0 a j g5 c5 g6 c6 wr)
    (h3 : w3.ownsRow w0.heap.size 28 5 (.slice (some ⟨g2, 0, none⟩) (j + 1 + 1) c2) (j + 1 + 1) (flat (k1_ a :: List.replicate j k3_) ++ flat [k3_])) (hg3 : (wr.alloc o).grownBy w3 (some g5)) (ho3 : some g5 = some g2 ∨ g2 = wr.heap.size + 1)
    (h5 : w5.ownsRow w0.heap.size 28 5 (.slice (some ⟨g4, 0, none⟩) (j + 1 + 1) c4) (j + 1 + 1) (flat (k1_ a :: List.replicate j k7_) ++ flat [k7_])) (hg5 : (w3.alloc o').grownBy w5 (some g6)) (ho5 : some g6 = some g4 ∨ g4 = w3.heap.size + 1) :
    Two w0 a (j + 1) g2 c2 g4 c4 w5 := by
  obtain ⟨q5, q6, hne, hb⟩ := h
  obtain ⟨l5, l5'⟩ := own_lt q5
  obtain ⟨l6, l6'⟩ := own_lt q6
  obtain ⟨l2, l2'⟩ := own_lt h3
  have z0 := hb.size
  have z1 := hg3.size
  have z1' : wr.heap.size + 1 ≤ w3.heap.size := by simpa using z1
  have e26 : g2 ≠ g6 := by
    rcases ho3 with e | e
    · have : g5 = g2 := by simpa using e
      omega
    · omega
  have e24 : g2 ≠ g4 := by
    rcases ho5 with e | e
    · have : g6 = g4 := by simpa using e
      omega
    · omega
  refine ⟨?_, ?_, e24, ?_⟩
  · rw [flat_more]; exact own_grown (h3.alloc o') hg5 (by simp; omega)
  · rw [flat_more]; exact h5
  · exact ((hb.alloc (by omega) o).grown hg3 (by simp; omega) (fun k hk => by simp at hk; omega)).alloc (by omega) o' |>.grown hg5 (by simp; omega) (fun k hk => by simp at hk; omega)

namespace fnWriteBack
def Post (w : World) (e : Ending) (w' : World) : Prop := e = .returned (.bool true) ∧ Below w.heap.size w w'

set_option maxRecDepth 100000 in
set_option maxHeartbeats 4000000 in
theorem walk (s : ByteArray) (at_ : Int) (a : ByteArray) (w : World) (_hs : s.size ≤ maxLen) (_hat : (Lit.int .i64 at_).wf = true) (_ha : a.size ≤ maxLen) {X : Prop} (_hL : X) :
    Calls Tryd.prog 7 #[.agg #[.string s, .int .i64 at_], .string a] w fun e w' => e = .returned (.bool true) ∧ Below w.heap.size w w' := by
  show Calls _ _ _ _ (Post w)
  clear _hs _hat _hL _ha
  obtain ⟨ib, hib, hz0, hz1, hz2⟩ := info_parts (show (Tryd.prog.info? 28).map (fun i => (i.zero, i.size, i.bytes)) = some (some (.agg #[.int .i64 0, .string ⟨#[]⟩, .int .i64 0, .bool false, .bool false]), 5, 40) by kernel_rfl)
  go_enter Tryd.func7, Tryd.ntmps7
  go_wp2_with fail
  refine (fits11_any s at_ _).mono ?_
  rintro e w1 ⟨q, rfl, hb, b1⟩
  have B1 : Hid (Below w.heap.size w w1) := ((Below.refl w.heap.size w).alloc (Nat.le_refl _) _).trans (b1.mono (by simp))
  have c0 : w1.cell? ⟨w.heap.size, 0, none⟩ = some (.string s) := (b1.cell (p := ⟨w.heap.size, 0, none⟩) (by simp)).trans (by simp [go_sem])
  have c1 : w1.cell? ⟨w.heap.size, 1, none⟩ = some (.int .i64 at_) := (b1.cell (p := ⟨w.heap.size, 1, none⟩) (by simp)).trans (by simp [go_sem])
  have z1 : w.heap.size < w1.heap.size := by have := b1.size; simp at this; omega
  have HF := Go.Lib.hid hb
  clear hb b1
  cases q
  · go_wp2_with fail
    go_returns
    exact ⟨rfl, B1.out⟩
  have hs : s.size ≤ 2147483647 := HF.out rfl
  by_cases hma : (2147483647 : Int) < a.size
  · go_wp2_with fail
    go_returns
    exact ⟨rfl, B1.out⟩
  have hma2 : a.size ≤ 2147483647 := by omega
  go_wp2_with fail
  refine (line9_any s at_ _ hs).mono ?_
  rintro e w2 ⟨q, rfl, hb, b2⟩
  have B2 : Hid (Below w.heap.size w w2) := B1.out.trans (b2.mono B1.out.size)
  have d0 := (b2.cell (p := ⟨w.heap.size, 0, none⟩) z1).trans c0
  have d1 := (b2.cell (p := ⟨w.heap.size, 1, none⟩) z1).trans c1
  have z2 : w.heap.size < w2.heap.size := Nat.lt_of_lt_of_le z1 b2.size
  have HL := Go.Lib.hid hb
  clear hb b2 c0 c1 B1 HF
  cases q
  · go_wp2_with fail
    go_returns
    exact ⟨rfl, B2.out⟩
  obtain ⟨⟨hA, -, h0, h1⟩, -⟩ := HL.out rfl
  have HA := Go.Lib.hid hA
  obtain ⟨k, rfl⟩ : ∃ k : Nat, at_ = k := ⟨at_.toNat, by omega⟩
  clear hA HL
  by_cases h100 : (100 : Int) < s.size
  · go_wp2_with fail
    go_returns
    exact ⟨rfl, B2.out⟩
  go_wp2_with fail
  refine (ascii9_any a _ hma2).mono ?_
  rintro e w2' ⟨q, rfl, hb, hw⟩
  obtain rfl := hw.symm
  clear hw
  have HAA := Go.Lib.hid hb
  clear hb
  cases q
  · go_wp2_with fail
    go_returns
    exact ⟨rfl, B2.out⟩
  by_cases ha25 : (25 : Int) < a.size
  · go_wp2_with fail
    go_returns
    exact ⟨rfl, B2.out⟩
  have HAa : Hid (IsAscii a) := (by first | exact (HAA.out rfl).1 | exact (HAA.out trivial).1)
  clear HAA
  have hkl : k ≤ s.size := by omega
  obtain ⟨p, hp⟩ : ∃ p, p = s.extract 0 k := ⟨_, rfl⟩
  obtain ⟨t, ht⟩ : ∃ t, t = s.extract k s.size := ⟨_, rfl⟩
  have hps : p.size ≤ 100 := by rw [hp, size_sub s 0 k (by omega)]; omega
  have hts : t.size ≤ 100 := by rw [ht, size_sub s k s.size (by omega)]; omega
  have hra := runes_ascii_length a HAa.out
  have hrs := runes_ascii_length s HA.out
  have hout : runesBytes ((runes s).take k ++ (runes a ++ (runes s).drop k)) = p ++ a ++ t := by
    rw [bytes_cat, bytes_cat, bytes_runes a HAa.out, bytes_take s HA.out, bytes_drop s HA.out, hp, ht]
    simp only [ByteArray.append_assoc]
  have KW : Hid (KeyOk (k1_ a) (runes s) k [] (-1) ((runes s).take k ++ (runes a ++ (runes s).drop k)) (k + a.size) []) := by
    have k1 := key_write (runes s) k [] (by omega) (by omega) a (by omega) 0 false false
    rw [hra] at k1
    exact k1
  have hlen : ((runes s).take k ++ (runes a ++ (runes s).drop k)).length = s.size + a.size := by simp; omega
  have HX := Go.Lib.hid (after_row s k (k1_ a :: List.replicate a.size k3_) (-1 :: List.replicate a.size (-1)) _ [] k (p ++ a ++ t) (by omega) HA.out (by omega) (by
    have c := back_chain ((runes s).take k ++ (runes a ++ (runes s).drop k)) (by omega) a.size (k + a.size) (by omega) (by omega)
    rw [Nat.add_sub_cancel] at c
    exact .cons KW.out c) hout (by omega) (by simp; omega) (by simp))
  have HY := Go.Lib.hid (after_row s k (k1_ a :: List.replicate a.size k7_) (-1 :: List.replicate a.size (-1)) (runes s) [] k s (by omega) HA.out (by omega) (by
    have c := take_chain a.size ((runes s).take k ++ (runes a ++ (runes s).drop k)) (k + a.size) (by omega) (by omega) (by omega)
    rw [Nat.add_sub_cancel, ← hra, drop_in (runes s) (runes a) k (by omega), List.take_left' (by simp; omega), List.take_append_drop, hra] at c
    exact .cons KW.out c) (bytes_runes s HA.out) (by omega) (by simp; omega) (by simp))
  have hsl : ∀ w, (Instr.slice 9 (.string s) (some (.int .i64 (k : Nat))) none none).run Tryd.prog w = .ok (.string t) w := fun w => by
    rw [run_slice_string_from_if (P := Tryd.prog) w 9 s .i64 (k : Nat) Tryd.underlying9, if_pos ⟨by omega, by omega⟩, ht]
    simp
  have hsl2 : ∀ w, (Instr.slice 9 (.string s) none (some (.int .i64 (k : Nat))) none).run Tryd.prog w = .ok (.string p) w := fun w => by
    rw [run_slice_string_to_if (P := Tryd.prog) w 9 s .i64 (k : Nat) Tryd.underlying9, if_pos ⟨by omega, by omega⟩, hp]
    simp
  have ho2 : (9223372036854775807 < p.size + a.size) = False := by simp; omega
  have ho3 : (9223372036854775807 < (p ++ a).size + t.size) = False := by simp [ByteArray.size_append]; omega
  have HTS := Go.Lib.hid (two_start w2 a)
  clear hp ht hra hrs hout hlen KW
  go_wp2_with fail
  go_loopw [5, 6, 46] (fun v5 v6 i wr => ∃ (j g5 c5 g6 c6 : Nat), j ≤ a.size ∧ v5 = .slice (some ⟨g5, 0, none⟩) (j + 1) c5 ∧ v6 = .slice (some ⟨g6, 0, none⟩) (j + 1) c6 ∧ i = .int .i64 j ∧ Hid (Two w2 a j g5 c5 g6 c6 wr)) (fun _ _ i _ => a.size - (intOf i).toNat)
  case atStart => exact ⟨0, _, _, _, _, Nat.zero_le _, rfl, rfl, rfl, HTS.out⟩
  case round =>
    obtain ⟨j, g5, c5, g6, c6, hj, rfl, rfl, rfl, HT⟩ := hrel
    by_cases hlt : j < a.size
    · have HO5 := Go.Lib.hid (HT.out.1.alloc (.cells #[.int .i64 3, .string ⟨#[]⟩, .int .i64 0, .bool false, .bool false] 28))
      have HO6 := Go.Lib.hid (HT.out.2.1.alloc (.cells #[.int .i64 3, .string ⟨#[]⟩, .int .i64 0, .bool false, .bool false] 28))
      have HN5 := Go.Lib.hid (kys_flat (kys_new wr [k3_] 28 #[.int .i64 3, .string ⟨#[]⟩, .int .i64 0, .bool false, .bool false] rfl))
      have hwz := HT.out.2.2.2.size
      have hne := HT.out.2.2.1
      go_wp2_with (at_builtin; refine wpList_append_lies _ rfl _ _ 29 rfl w2.heap.size 28 ib _ 5 40 Tryd.underlying29 hib hz0 hz1 hz2 rfl (by decide) _ (j + 1) _ rfl HO5.out ⟨wr.heap.size, 0, none⟩ 1 1 (flat [k3_]) rfl rfl HN5.out (flat_one _) (by decide) ?c1 ?c2 ?c3 _ rfl ?_)
      case c1 => unfold maxLen; omega
      case c2 => omega
      case c3 => simp; omega
      intro g2 cap2 w3 hown3 hgrow3 hor3 hg2
      have H3 := Go.Lib.hid hown3
      have G3 := Go.Lib.hid hgrow3
      have OR3 := Go.Lib.hid hor3
      have z3 : w2.heap.size ≤ w3.heap.size := by have := hgrow3.size; simp at this; omega
      have HO6' := Go.Lib.hid ((own_grown HO6.out hgrow3 (by simp [Value.ownBlock]; omega)).alloc (.cells #[.int .i64 7, .string ⟨#[]⟩, .int .i64 0, .bool false, .bool false] 28))
      have HN6 := Go.Lib.hid (kys_flat (kys_new w3 [k7_] 28 #[.int .i64 7, .string ⟨#[]⟩, .int .i64 0, .bool false, .bool false] rfl))
      clear hown3 hgrow3 hor3
      go_wp2_with (at_builtin; refine wpList_append_lies _ rfl _ _ 29 rfl w2.heap.size 28 ib _ 5 40 Tryd.underlying29 hib hz0 hz1 hz2 rfl (by decide) _ (j + 1) _ rfl HO6'.out ⟨w3.heap.size, 0, none⟩ 1 1 (flat [k7_]) rfl rfl HN6.out (flat_one _) (by decide) ?c1 ?c2 ?c3 _ rfl ?_)
      case c1 => unfold maxLen; omega
      case c2 => omega
      case c3 => simp; omega
      intro g4 cap4 w5 hown5 hgrow5 hor5 hg4
      have HTN : Hid (Two w2 a (j + 1) g2 cap2 g4 cap4 w5) := two_next HT.out H3.out G3.out OR3.out hown5 hgrow5 hor5
      clear hown5 hgrow5 hor5
      go_wp2_with fail
      go_roundw
      case rel => exact ⟨j + 1, g2, cap2, g4, cap4, by omega, rfl, rfl, by go_num, HTN.out⟩
      case measure => simp [intOf]; omega
    · obtain ⟨m, hm⟩ : ∃ m, m = j + 1 := ⟨_, rfl⟩
      have HM : Hid (m = (k1_ a :: List.replicate a.size k3_).length ∧ m = (k1_ a :: List.replicate a.size k7_).length ∧ j = a.size) := ⟨by simp; omega, by simp; omega, by omega⟩
      have H5 : Hid (wr.ownsRow w2.heap.size 28 5 (.slice (some ⟨g5, 0, none⟩) m c5) m (flat (k1_ a :: List.replicate a.size k3_))) := by
        have := HT.out.1; rw [HM.out.2.2] at this; rw [hm, HM.out.2.2]; exact this
      have H6 : Hid (wr.ownsRow w2.heap.size 28 5 (.slice (some ⟨g6, 0, none⟩) m c6) m (flat (k1_ a :: List.replicate a.size k7_))) := by
        have := HT.out.2.1; rw [HM.out.2.2] at this; rw [hm, HM.out.2.2]; exact this
      have hj1 : ¬ (j : Int) < a.size := by omega
      have hbr := HT.out.2.2.2
      have d0' := (hbr.cell (p := ⟨w.heap.size, 0, none⟩) z2).trans d0
      have d1' := (hbr.cell (p := ⟨w.heap.size, 1, none⟩) z2).trans d1
      have zr : w.heap.size < wr.heap.size := Nat.lt_of_lt_of_le z2 hbr.size
      have BR : Hid (Below w.heap.size w wr) := B2.out.trans (hbr.mono B2.out.size)
      rw [← hm]
      clear hbr d0 d1 hm
      go_wp2_with fail
      refine (HX.out _ _ _ _ _ H5.out HM.out.1).mono ?_
      rintro e w3 ⟨rfl, b3⟩
      have B3 : Hid (Below w.heap.size w w3) := BR.out.trans (b3.mono BR.out.size)
      have e0 := (b3.cell (p := ⟨w.heap.size, 0, none⟩) zr).trans d0'
      have e1 := (b3.cell (p := ⟨w.heap.size, 1, none⟩) zr).trans d1'
      have z3 : w.heap.size < w3.heap.size := Nat.lt_of_lt_of_le zr b3.size
      have H6' : Hid (w3.ownsRow w2.heap.size 28 5 (.slice (some ⟨g6, 0, none⟩) m c6) m (flat (k1_ a :: List.replicate a.size k7_))) := by
        have hl := (own_lt H6.out).2
        have h := H6.out
        refine ⟨h.1, ?_⟩
        rcases h.2 with h0 | ⟨g, c, cur, hv, hg, hh, r⟩
        · exact .inl h0
        · cases hv; exact .inr ⟨g6, c6, cur, rfl, hg, by rw [b3.block g6 hl]; exact hh, r⟩
      have H6'' := Go.Lib.hid (H6'.out.alloc (.cells #[.string (p ++ a ++ t), .int .i64 (k : Nat)] 23))
      clear b3 d0' d1' BR
      go_wp2_with fail
      refine (HY.out _ _ _ _ _ H6''.out HM.out.2.1).mono ?_
      rintro e w4 ⟨rfl, b4⟩
      have B4 : Hid (Below w.heap.size w w4) := (B3.out.alloc (by omega) _).trans (b4.mono (by simp; omega))
      have g0 : w4.cell? ⟨w.heap.size, 0, none⟩ = some (.string s) := (b4.cell (p := ⟨w.heap.size, 0, none⟩) (by simp; omega)).trans ((World.cell?_of_block (Below.heap_alloc _ _ _ z3)).trans e0)
      have g1 : w4.cell? ⟨w.heap.size, 1, none⟩ = some (.int .i64 (k : Nat)) := (b4.cell (p := ⟨w.heap.size, 1, none⟩) (by simp; omega)).trans ((World.cell?_of_block (Below.heap_alloc _ _ _ z3)).trans e1)
      have x0 : w4.cell? ⟨w3.heap.size, 0, none⟩ = some (.string (p ++ a ++ t)) := (b4.cell (p := ⟨w3.heap.size, 0, none⟩) (by simp)).trans (by simp [go_sem])
      have x1 : w4.cell? ⟨w3.heap.size, 1, none⟩ = some (.int .i64 (k : Nat)) := (b4.cell (p := ⟨w3.heap.size, 1, none⟩) (by simp)).trans (by simp [go_sem])
      have z4 : w3.heap.size < w4.heap.size := by have := b4.size; simp at this; omega
      have z5 : w.heap.size < w4.heap.size := by omega
      clear b4 e0 e1 B3
      go_wp2_with fail
      go_quiet (fail)
      go_wp2_with fail
      go_returns
      exact ⟨rfl, below_drewN (B4.out.alloc (by omega) _) _⟩
end fnWriteBack
end Go.Proofs.YtnejdgacabdcdaaDoor
