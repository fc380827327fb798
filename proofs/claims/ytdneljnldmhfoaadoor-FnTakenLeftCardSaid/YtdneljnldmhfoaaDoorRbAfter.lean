/- laws.after9: the line after some steps on a line. -/
import Derived.Test.YtdneljnldmhfoaaDoorRbKeyed
namespace Go.Proofs.YtdneljnldmhfoaaDoor
open Go.RowKit
set_option linter.unusedVariables false
set_option linter.unusedSimpArgs false

def flat (es : List Ky) : List Value := es.flatMap Ky.cells
theorem flat_length (es : List Ky) : (flat es).length = es.length * 5 := by
  induction es with
  | nil => rfl
  | cons e es ih => simp [flat, Ky.cells] at ih ⊢; omega
theorem flat_one (es : List Ky) : ∀ u ∈ flat es, u.oneCell' = true := by
  intro u hu
  obtain ⟨e, _, he⟩ := List.mem_flatMap.1 hu
  simp [Ky.cells] at he
  rcases he with rfl | rfl | rfl | rfl | rfl <;> rfl
theorem flat_get : ∀ (es : List Ky) (i r : Nat) (e : Ky), es[i]? = some e → r < 5 → (flat es)[i * 5 + r]? = e.cells[r]?
  | [], i, r, e, h, _ => by simp at h
  | x :: es, 0, r, e, h, hr => by
    simp at h; subst h
    show (x.cells ++ flat es)[0 * 5 + r]? = _
    rw [Nat.zero_mul, Nat.zero_add, List.getElem?_append_left (by simpa [Ky.cells] using hr)]
  | x :: es, i + 1, r, e, h, hr => by
    show (x.cells ++ flat es)[(i + 1) * 5 + r]? = _
    rw [List.getElem?_append_right (by simp [Ky.cells]; omega), ← flat_get es i r e (by simpa using h) hr]
    congr 1
    simp [Ky.cells]; omega

theorem add_plain (B k j : Nat) : (⟨B, k, none⟩ : Addr).add j = ⟨B, k + j, none⟩ := by
  unfold Addr.add
  by_cases e : j = 0
  · rw [if_pos e, e]; rfl
  · rw [if_neg e]

theorem kys_flat {w : World} {b off : Nat} {es : List Ky} (h : KysAt w b off es) : ∀ (j : Nat) (u : Value), (flat es)[j]? = some u → w.cell? ((⟨b, off, none⟩ : Addr).add j) = some u := fun j u hu => by
  have hj := (List.getElem?_eq_some_iff.1 hu).1
  rw [flat_length] at hj
  have hi : j / 5 < es.length := by omega
  have hr : j % 5 < 5 := Nat.mod_lt _ (by omega)
  have he := List.getElem?_eq_getElem hi
  generalize es[j / 5] = e at he
  have h1 := flat_get es (j / 5) (j % 5) e he hr
  rw [show j / 5 * 5 + j % 5 = j by omega, hu] at h1
  obtain ⟨c0, c1, c2, c3, c4⟩ := h (j / 5) e he
  rw [add_plain]
  have hrr : j % 5 = 0 ∨ j % 5 = 1 ∨ j % 5 = 2 ∨ j % 5 = 3 ∨ j % 5 = 4 := by omega
  rcases hrr with hr | hr | hr | hr | hr <;> rw [hr] at h1 <;> simp [Ky.cells] at h1 <;> subst h1
  · rw [show off + j = off + j / 5 * 5 by omega]; exact c0
  · rw [show off + j = off + j / 5 * 5 + 1 by omega]; exact c1
  · rw [show off + j = off + j / 5 * 5 + 2 by omega]; exact c2
  · rw [show off + j = off + j / 5 * 5 + 3 by omega]; exact c3
  · rw [show off + j = off + j / 5 * 5 + 4 by omega]; exact c4

theorem kys_of_flat {w : World} {b off : Nat} {es : List Ky} (h : ∀ (j : Nat) (u : Value), (flat es)[j]? = some u → w.cell? ⟨b, off + j, none⟩ = some u) : KysAt w b off es := fun i e he => by
  have g := fun r hr => flat_get es i r e he hr
  refine ⟨?_, ?_, ?_, ?_, ?_⟩
  · exact h (i * 5) _ (by simpa [Ky.cells] using g 0 (by omega))
  · rw [Nat.add_assoc]; exact h (i * 5 + 1) _ (by simpa [Ky.cells] using g 1 (by omega))
  · rw [Nat.add_assoc]; exact h (i * 5 + 2) _ (by simpa [Ky.cells] using g 2 (by omega))
  · rw [Nat.add_assoc]; exact h (i * 5 + 3) _ (by simpa [Ky.cells] using g 3 (by omega))
  · rw [Nat.add_assoc]; exact h (i * 5 + 4) _ (by simpa [Ky.cells] using g 4 (by omega))

/-- A row of steps that the call owns is a script in memory. -/
theorem kys_owned {w : World} {base g n cap : Nat} {es : List Ky} (h : w.ownsRow base 30 5 (.slice (some ⟨g, 0, none⟩) n cap) n (flat es)) : KysAt w g 0 es := by
  refine kys_of_flat fun j u hu => ?_
  rcases h.2 with ⟨h0, _⟩ | ⟨g', c, cur, hv, _, hh, _, _, _, htk⟩
  · cases h0
  · cases hv
    rw [World.cell?, hh]
    have hj := (List.getElem?_eq_some_iff.1 hu).1
    have := congrArg (·[j]?) htk
    rw [← htk] at hj
    simp at hj
    simp only [hu] at this
    rw [List.getElem?_take_of_lt (by omega)] at this
    simpa using this

def AfterPost (l' : List Int) (k' : Nat) (w : World) (e : Ending) (w' : World) : Prop :=
  e = .returned (.tuple #[.agg #[.string (runesBytes l'), .int .i64 (k' : Nat)], .bool true]) ∧ Below w.heap.size w w'

set_option maxRecDepth 100000 in
set_option maxHeartbeats 4000000 in
theorem after_any9 (b off cap : Nat) (s : ByteArray) (at0 : Nat) (es : List Ky) (ts l' kept' : List Int) (k' : Nat) (w : World) (hbl : b < w.heap.size) (he : KysAt w b off es) (hs : s.size ≤ 100000) (hat : at0 ≤ (runes s).length) (hc : Chain es (runes s) at0 [] ts l' k' kept') (hn : es.length ≤ 1000000) (hn0 : 0 < es.length) (hl : l'.length ≤ 100000) :
    Calls Tryd.prog 17 #[.agg #[.string s, .int .i64 (at0 : Nat)], .slice (some ⟨b, off, none⟩) es.length cap] w (AfterPost l' k' w) := by
  obtain ⟨ib, hib, hz0, hz1, hz2⟩ := info_parts (show (Tryd.prog.info? 30).map (fun i => (i.zero, i.size, i.bytes)) = some (some (.agg #[.int .i64 0, .string ⟨#[]⟩, .int .i64 0, .bool false, .bool false]), 5, 40) by kernel_rfl)
  have HE := Go.Lib.hid he
  have HC := Go.Lib.hid hc
  have HF := Go.Lib.hid (flat_length es)
  clear he hc
  go_enter Tryd.func17, Tryd.ntmps17
  have hb0 : Below w.heap.size w (((w.alloc (.cells #[.string s, .int .i64 (at0 : Nat)] 34)).alloc (.cells #[.string ⟨#[]⟩, .int .i64 0] 34)).alloc (.cells #[.int .i64 20, .string s, .int .i64 (at0 : Nat), .bool false, .bool false] 30)) := (((Below.refl w.heap.size w).alloc (Nat.le_refl _) _).alloc (by simp) _).alloc (by simp; omega) _
  have hown : (((w.alloc (.cells #[.string s, .int .i64 (at0 : Nat)] 34)).alloc (.cells #[.string ⟨#[]⟩, .int .i64 0] 34)).alloc (.cells #[.int .i64 20, .string s, .int .i64 (at0 : Nat), .bool false, .bool false] 30)).ownsRow w.heap.size 30 5 (.slice (some ⟨w.heap.size + 1 + 1, 0, none⟩) 1 1) 1 (flat [⟨20, s, at0, false, false⟩]) := by
    refine ⟨rfl, .inr ⟨w.heap.size + 1 + 1, 1, #[.int .i64 20, .string s, .int .i64 (at0 : Nat), .bool false, .bool false], rfl, by omega, ?_, Nat.le_refl _, by decide, rfl, rfl⟩⟩
    have := heap_alloc_new ((w.alloc (.cells #[.string s, .int .i64 (at0 : Nat)] 34)).alloc (.cells #[.string ⟨#[]⟩, .int .i64 0] 34)) (.cells #[.int .i64 20, .string s, .int .i64 (at0 : Nat), .bool false, .bool false] 30)
    rw [show ((w.alloc (.cells #[.string s, .int .i64 (at0 : Nat)] 34)).alloc (.cells #[.string ⟨#[]⟩, .int .i64 0] 34)).heap.size = w.heap.size + 1 + 1 by simp] at this
    exact this
  have hnews : ∀ (j : Nat) (u : Value), (flat es)[j]? = some u → (((w.alloc (.cells #[.string s, .int .i64 (at0 : Nat)] 34)).alloc (.cells #[.string ⟨#[]⟩, .int .i64 0] 34)).alloc (.cells #[.int .i64 20, .string s, .int .i64 (at0 : Nat), .bool false, .bool false] 30)).cell? ((⟨b, off, none⟩ : Addr).add j) = some u := fun j u hu => by
    have := kys_flat HE.out j u hu
    rw [add_plain] at this ⊢
    exact (hb0.cell (p := ⟨b, off + j, none⟩) hbl).trans this
  have HB0 := Go.Lib.hid hb0
  have HOWN := Go.Lib.hid hown
  have HNEWS := Go.Lib.hid hnews
  obtain ⟨n, hnn⟩ : ∃ n, n = es.length := ⟨_, rfl⟩
  clear hb0 hown hnews
  go_wp2_with (at_builtin; refine wpList_append_lies _ rfl _ _ 22 rfl w.heap.size 30 ib _ 5 40 Tryd.underlying22 hib hz0 hz1 hz2 rfl (by decide) _ 1 _ rfl HOWN.out ⟨b, off, none⟩ es.length cap (flat es) rfl HF.out HNEWS.out (flat_one es) ?c0 ?c1 ?c2 ?c3 _ rfl ?_)
  case c0 => exact hn0
  case c1 => unfold maxLen; omega
  case c2 => omega
  case c3 => simp; omega
  intro g2 cap2 w3 hown3 hgrow3 _ hg2
  have hE3 : KysAt w3 g2 0 (⟨20, s, at0, false, false⟩ :: es) := kys_owned (es := ⟨20, s, at0, false, false⟩ :: es) hown3
  have HK : Hid (Calls Tryd.prog 13 #[.slice (some ⟨g2, 0, none⟩) (1 + es.length) cap2] w3 (KeyedPost l' k' (-1 :: ts) w3)) := by
    rw [Nat.add_comm]
    exact keyed_any g2 0 cap2 (⟨20, s, at0, false, false⟩ :: es) (-1 :: ts) l' kept' k' w3 hg2 hE3 (.cons (key_set [] 0 [] s hs at0 hat false false) HC.out) (by simp; omega) hl
  have far : ∀ q, q < w.heap.size + 1 + 1 → w3.heap[q]? = (((w.alloc (.cells #[.string s, .int .i64 (at0 : Nat)] 34)).alloc (.cells #[.string ⟨#[]⟩, .int .i64 0] 34)).alloc (.cells #[.int .i64 20, .string s, .int .i64 (at0 : Nat), .bool false, .bool false] 30)).heap[q]? := fun q hq => hgrow3.block q (by simp; omega) (by simp [Value.ownBlock]; omega)
  have hz3 : w.heap.size + 1 + 1 + 1 ≤ w3.heap.size := by have := hgrow3.size; simpa using this
  have d0 : w3.cell? ⟨w.heap.size + 1, 0, none⟩ = some (.string ⟨#[]⟩) := (World.cell?_of_block (far (w.heap.size + 1) (by omega))).trans (by simp [go_sem])
  have d1 : w3.cell? ⟨w.heap.size + 1, 1, none⟩ = some (.int .i64 0) := (World.cell?_of_block (far (w.heap.size + 1) (by omega))).trans (by simp [go_sem])
  have f0 : w3.frozen? ⟨w.heap.size + 1, 0, none⟩ = false := (World.frozen?_of_block (far (w.heap.size + 1) (by omega))).trans (by simp [go_sem])
  have f1 : w3.frozen? ⟨w.heap.size + 1, 1, none⟩ = false := (World.frozen?_of_block (far (w.heap.size + 1) (by omega))).trans (by simp [go_sem])
  have HB3 : Hid (Below w.heap.size w w3) := HB0.out.grown hgrow3 (by simp; omega) (fun k hk => by simp [Value.ownBlock] at hk; omega)
  clear hown3 hgrow3 far hE3
  go_wp2_with fail
  refine HK.out.mono ?_
  rintro e w4 ⟨v, rfl, hvo, hb4⟩
  obtain ⟨va, vn, vc, rfl⟩ : ∃ a n c, v = .slice a n c := by
    rcases hvo.2 with ⟨h, _⟩ | ⟨g, cap, cur, h, _⟩ <;> exact ⟨_, _, _, h⟩
  clear hvo
  have e0 := (hb4.cell (p := ⟨w.heap.size + 1, 0, none⟩) (by show w.heap.size + 1 < _; omega)).trans d0
  have e1 := (hb4.cell (p := ⟨w.heap.size + 1, 1, none⟩) (by show w.heap.size + 1 < _; omega)).trans d1
  have g0 := (hb4.frozen (p := ⟨w.heap.size + 1, 0, none⟩) (by show w.heap.size + 1 < _; omega)).trans f0
  have g1 := (hb4.frozen (p := ⟨w.heap.size + 1, 1, none⟩) (by show w.heap.size + 1 < _; omega)).trans f1
  have HB4 : Hid (Below w.heap.size w w4) := HB3.out.trans (hb4.mono HB3.out.size)
  have hz4 : w.heap.size + 1 < w4.heap.size := by have := hb4.size; omega
  clear d0 d1 f0 f1 hb4
  go_wp2_with fail
  have q0 : (((w4.setCell ⟨w.heap.size + 1, 0, none⟩ (.string (runesBytes l'))).setCell ⟨w.heap.size + 1, 1, none⟩ (.int .i64 (k' : Nat))).alloc (.cells #[.string (runesBytes l'), .int .i64 (k' : Nat)] 34)).cell? ⟨w.heap.size + 1, 0, none⟩ = some (.string (runesBytes l')) := by
    rw [World.cell?_of_block (Below.heap_alloc _ _ _ (by simp [World.setCell]; omega)), World.cell?_setCell_other _ _ _ _ (by simp), World.cell?_setCell_same' _ _ _ (by rw [e0]; rfl)]
  have q1 : (((w4.setCell ⟨w.heap.size + 1, 0, none⟩ (.string (runesBytes l'))).setCell ⟨w.heap.size + 1, 1, none⟩ (.int .i64 (k' : Nat))).alloc (.cells #[.string (runesBytes l'), .int .i64 (k' : Nat)] 34)).cell? ⟨w.heap.size + 1, 1, none⟩ = some (.int .i64 (k' : Nat)) := by
    rw [World.cell?_of_block (Below.heap_alloc _ _ _ (by simp [World.setCell]; omega)), World.cell?_setCell_same' _ _ _ (by rw [World.cell?_setCell_other _ _ _ _ (by simp), e1]; rfl)]
  have hkk : Hid (Below w.heap.size w (((w4.setCell ⟨w.heap.size + 1, 0, none⟩ (.string (runesBytes l'))).setCell ⟨w.heap.size + 1, 1, none⟩ (.int .i64 (k' : Nat))).alloc (.cells #[.string (runesBytes l'), .int .i64 (k' : Nat)] 34))) := by
    have hb := HB4.out
    refine ⟨hb.os, hb.tape, hb.output, by have := hb.size; simp [World.setCell]; omega, fun i hi => ?_⟩
    rw [Below.heap_alloc _ _ _ (by simp [World.setCell]; omega), Below.heap_setCell _ _ _ _ (by show i ≠ w.heap.size + 1; omega), Below.heap_setCell _ _ _ _ (by show i ≠ w.heap.size + 1; omega)]
    exact hb.block i hi
  clear e0 e1
  exact bodyPost_ret (v := .tuple #[.agg #[.string (runesBytes l'), .int .i64 (k' : Nat)], .bool true]) (by simp [results, Tryd.results17, go_sem, q0, q1]) rfl ⟨rfl, hkk.out⟩
end Go.Proofs.YtdneljnldmhfoaaDoor
