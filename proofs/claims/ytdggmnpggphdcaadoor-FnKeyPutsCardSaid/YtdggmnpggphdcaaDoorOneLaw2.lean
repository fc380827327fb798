/- laws.one9, with the case that both fail (printed by wip/gen/mkonelaw2.py). -/
import Derived.Test.YtdggmnpggphdcaaDoorOneLaw
import Derived.Test.YtdggmnpggphdcaaDoorPutsFail
namespace Go.Proofs.YtdggmnpggphdcaaDoor
open Go.RowKit
set_option linter.unusedVariables false
set_option linter.unusedSimpArgs false

/-- What the reference says of a step, and the package does: it is not said; or both fail; or both do the same. -/
def Agreed2 (e : Ky) (l : List Int) (k : Nat) : Prop :=
  (∃ m l' k' kept' bad', DoOk e l k [] m l' k' kept' bad' true) ∨
  (∃ m l' k' kept', DoOk e l k [] m l' k' kept' true false ∧ KeyBad e l k []) ∨
  ∃ m l' k' kept' kept'', DoOk e l k [] m l' k' kept' false false ∧ KeyOk e l k [] m l' k' kept'' ∧ l'.length ≤ 100000

set_option maxRecDepth 100000 in
set_option maxHeartbeats 4000000 in
theorem one9_two (s : ByteArray) (a : Int) (k : Ky) (w : World) (hs : s.size ≤ 2147483647) (hks : k.s.size ≤ 2147483647) (hag : ∀ i : Nat, a = i → Lined s a → Keyd k → Agreed2 k (runes s) i) :
    Calls Tryd.prog 5 #[.agg #[.string s, .int .i64 a], k.val] w (TruePost w) := by
  have HAG := Go.Lib.hid hag
  have HK9 := Go.Lib.hid fun w => key9_any k w hks
  obtain ⟨op, str, n, f, b⟩ := k
  unfold Ky.val at HK9 ⊢
  dsimp only at hks HK9 ⊢
  clear hag
  go_enter Tryd.func5, Tryd.ntmps5
  go_wp2_with fail
  refine (line9_any s a _ hs).mono ?_
  rintro e w1 ⟨r, rfl, hr, b1⟩
  have e0 := (b1.cell (p := ⟨w.heap.size, 0, none⟩) (by simp <;> omega)).trans (show _ = some (Value.string s) by simp [go_sem])
  have e1 := (b1.cell (p := ⟨w.heap.size, 1, none⟩) (by simp <;> omega)).trans (show _ = some (Value.int .i64 a) by simp [go_sem])
  have d0 := (b1.cell (p := ⟨w.heap.size + 1, 0, none⟩) (by simp <;> omega)).trans (show _ = some (Value.int .i64 op) by simp [go_sem])
  have d1 := (b1.cell (p := ⟨w.heap.size + 1, 1, none⟩) (by simp <;> omega)).trans (show _ = some (Value.string str) by simp [go_sem])
  have d2 := (b1.cell (p := ⟨w.heap.size + 1, 2, none⟩) (by simp <;> omega)).trans (show _ = some (Value.int .i64 n) by simp [go_sem])
  have d3 := (b1.cell (p := ⟨w.heap.size + 1, 3, none⟩) (by simp <;> omega)).trans (show _ = some (Value.bool f) by simp [go_sem])
  have d4 := (b1.cell (p := ⟨w.heap.size + 1, 4, none⟩) (by simp <;> omega)).trans (show _ = some (Value.bool b) by simp [go_sem])
  have hz1 : w.heap.size + 1 < w1.heap.size := by have := b1.size; simp at this; omega
  have B1 : Hid (Below w.heap.size w w1) := (((Below.refl _ _).alloc (Nat.le_refl _) _).alloc (by simp) _).trans (b1.mono (by simp; omega))
  have HR := Go.Lib.hid hr
  clear b1 hr
  cases r
  · go_wp2_with fail
    go_returns
    exact ⟨rfl, B1.out⟩
  go_wp2_with fail
  refine (HK9.out _).mono ?_
  rintro e w2 ⟨r, rfl, hr, b2⟩
  have HKD := Go.Lib.hid hr
  have B2 : Hid (Below w.heap.size w w2) := B1.out.trans (b2.mono B1.out.size)
  have g0 := (b2.cell (p := ⟨w.heap.size, 0, none⟩) (by show w.heap.size < _; omega)).trans e0
  have g1 := (b2.cell (p := ⟨w.heap.size, 1, none⟩) (by show w.heap.size < _; omega)).trans e1
  have c0 := (b2.cell (p := ⟨w.heap.size + 1, 0, none⟩) hz1).trans d0
  have c1 := (b2.cell (p := ⟨w.heap.size + 1, 1, none⟩) hz1).trans d1
  have c2 := (b2.cell (p := ⟨w.heap.size + 1, 2, none⟩) hz1).trans d2
  have c3 := (b2.cell (p := ⟨w.heap.size + 1, 3, none⟩) hz1).trans d3
  have c4 := (b2.cell (p := ⟨w.heap.size + 1, 4, none⟩) hz1).trans d4
  have hz2 : w.heap.size + 1 < w2.heap.size := by have := b2.size; omega
  clear b2 hr e0 e1 d0 d1 d2 d3 d4
  cases r
  · go_wp2_with fail
    go_returns
    exact ⟨rfl, B2.out⟩
  have HL : Hid (Lined s a) := (HR.out (by trivial)).1
  have HKY : Hid (Keyd ⟨op, str, n, f, b⟩) := HKD.out (by trivial)
  obtain ⟨i, hi⟩ := Int.eq_ofNat_of_zero_le HL.out.2.2.1
  subst hi
  have hag := HAG.out i rfl HL.out HKY.out
  have his : i ≤ s.size := by have := HL.out.2.2.2; omega
  have hll := runes_ascii_length s HL.out.1
  have hil : i ≤ (runes s).length := by omega
  have hsz : s.size ≤ 300 := HL.out.2.1
  have HAGR := Go.Lib.hid hag
  have HLL := Go.Lib.hid hll
  have HIL := Go.Lib.hid hil
  clear hag HAG HK9 HKD HR hll hil
  go_wp2_with fail
  refine (newEditor_any s i w2 (by omega) HIL.out).mono ?_
  rintro e w3 ⟨eb, rfl, heb, hed, b3⟩
  have HED := Go.Lib.hid hed
  have B3 : Hid (Below w.heap.size w w3) := B2.out.trans (b3.mono B2.out.size)
  have e0 := (b3.cell (p := ⟨w.heap.size, 0, none⟩) (by show w.heap.size < _; omega)).trans g0
  have e1 := (b3.cell (p := ⟨w.heap.size, 1, none⟩) (by show w.heap.size < _; omega)).trans g1
  have d0 := (b3.cell (p := ⟨w.heap.size + 1, 0, none⟩) hz2).trans c0
  have d1 := (b3.cell (p := ⟨w.heap.size + 1, 1, none⟩) hz2).trans c1
  have d2 := (b3.cell (p := ⟨w.heap.size + 1, 2, none⟩) hz2).trans c2
  have d3 := (b3.cell (p := ⟨w.heap.size + 1, 3, none⟩) hz2).trans c3
  have d4 := (b3.cell (p := ⟨w.heap.size + 1, 4, none⟩) hz2).trans c4
  have hz3 : w.heap.size + 1 < w3.heap.size := by have := b3.size; omega
  clear b3 hed g0 g1 c0 c1 c2 c3 c4
  go_wp2_with fail
  rcases HAGR.out with ⟨m, l', k', kept', bad', hdo⟩ | ⟨m, l', k', kept', hdo, hbad⟩ | ⟨m, l', k', kept', kept'', hdo, hkey, hl'⟩
  · refine (hdo eb w3 HED.out).mono ?_
    rintro e w4 ⟨rfl, hed, o4⟩
    have HED2 := Go.Lib.hid hed
    have B4 : Hid (Below w.heap.size w w4) := B3.out.trans (o4.below (by omega) B3.out.size)
    clear hed o4 hdo
    go_wp2_with fail
    refine (open_any eb _ _ _ _ _ w4 HED2.out).mono ?_
    rintro e w5 ⟨rfl, rfl⟩
    go_wp2_with fail
    go_returns
    exact ⟨rfl, B4.out⟩
  · have HBAD := Go.Lib.hid hbad
    refine (hdo eb w3 HED.out).mono ?_
    rintro e w4 ⟨rfl, hed, o4⟩
    have HED2 := Go.Lib.hid hed
    have B4 : Hid (Below w.heap.size w w4) := B3.out.trans (o4.below (by omega) B3.out.size)
    have ne : ∀ {q}, q < w3.heap.size → q ≠ eb → w4.heap[q]? = w3.heap[q]? := fun h1 h2 => o4.rest _ h1 h2
    have g0 := (World.cell?_of_block (w := w3) (ne (q := w.heap.size) (by omega) (by omega))).trans e0
    have g1 := (World.cell?_of_block (w := w3) (ne (q := w.heap.size) (by omega) (by omega))).trans e1
    have c0 := (World.cell?_of_block (w := w3) (ne (q := w.heap.size + 1) (by omega) (by omega))).trans d0
    have c1 := (World.cell?_of_block (w := w3) (ne (q := w.heap.size + 1) (by omega) (by omega))).trans d1
    have c2 := (World.cell?_of_block (w := w3) (ne (q := w.heap.size + 1) (by omega) (by omega))).trans d2
    have c3 := (World.cell?_of_block (w := w3) (ne (q := w.heap.size + 1) (by omega) (by omega))).trans d3
    have c4 := (World.cell?_of_block (w := w3) (ne (q := w.heap.size + 1) (by omega) (by omega))).trans d4
    have hz4 : w.heap.size + 1 < w4.heap.size := by have := o4.size; omega
    clear hed o4 hdo hbad ne e0 e1 d0 d1 d2 d3 d4
    go_wp2_with fail
    refine (open_any eb _ _ _ _ _ w4 HED2.out).mono ?_
    rintro e w5 ⟨rfl, rfl⟩
    go_wp2_with fail
    refine (once_fail s i ⟨op, str, n, f, b⟩ w4 (by omega) HIL.out HBAD.out).mono ?_
    rintro e w5 ⟨rfl, b5⟩
    have HED3 := Go.Lib.hid (HED2.out.same b5)
    have B5 : Hid (Below w.heap.size w w5) := B4.out.trans (b5.mono B4.out.size)
    clear b5 g0 g1 c0 c1 c2 c3 c4
    go_wp2_with fail
    have b6 : Below w5.heap.size w5 (w5.alloc (.cells #[.string ⟨#[]⟩, .int .i64 0] 23)) := (Below.refl _ _).alloc (Nat.le_refl _) _
    refine (bad_any eb _ _ _ _ _ _ (HED3.out.same b6)).mono ?_
    rintro e w6 ⟨rfl, rfl⟩
    have B6 : Hid (Below w.heap.size w (w5.alloc (.cells #[.string ⟨#[]⟩, .int .i64 0] 23))) := B5.out.trans (b6.mono B5.out.size)
    clear b6
    go_wp2_with fail
    refine (once_any ⟨#[]⟩ 0 ⟨4, ⟨#[]⟩, 0, false, false⟩ (-1) [] 0 [] _ (by decide) (Nat.zero_le _) (by simp) (key_start [] 0 [] (Nat.le_refl _) (by simp) ⟨#[]⟩ 0 false false)).mono ?_
    rintro e w7 ⟨rfl, b7⟩
    have B7 : Hid (Below w.heap.size w w7) := B6.out.trans (b7.mono B6.out.size)
    clear b7
    go_wp2_with fail
    go_returns
    exact ⟨rfl, B7.out.alloc B7.out.size _⟩
  · have HKEY := Go.Lib.hid hkey
    refine (hdo eb w3 HED.out).mono ?_
    rintro e w4 ⟨rfl, hed, o4⟩
    have HED2 := Go.Lib.hid hed
    have B4 : Hid (Below w.heap.size w w4) := B3.out.trans (o4.below (by omega) B3.out.size)
    have ne : ∀ {q}, q < w3.heap.size → q ≠ eb → w4.heap[q]? = w3.heap[q]? := fun h1 h2 => o4.rest _ h1 h2
    have g0 := (World.cell?_of_block (w := w3) (ne (q := w.heap.size) (by omega) (by omega))).trans e0
    have g1 := (World.cell?_of_block (w := w3) (ne (q := w.heap.size) (by omega) (by omega))).trans e1
    have c0 := (World.cell?_of_block (w := w3) (ne (q := w.heap.size + 1) (by omega) (by omega))).trans d0
    have c1 := (World.cell?_of_block (w := w3) (ne (q := w.heap.size + 1) (by omega) (by omega))).trans d1
    have c2 := (World.cell?_of_block (w := w3) (ne (q := w.heap.size + 1) (by omega) (by omega))).trans d2
    have c3 := (World.cell?_of_block (w := w3) (ne (q := w.heap.size + 1) (by omega) (by omega))).trans d3
    have c4 := (World.cell?_of_block (w := w3) (ne (q := w.heap.size + 1) (by omega) (by omega))).trans d4
    have hz4 : w.heap.size + 1 < w4.heap.size := by have := o4.size; omega
    clear hed o4 hdo hkey ne e0 e1 d0 d1 d2 d3 d4
    go_wp2_with fail
    refine (open_any eb _ _ _ _ _ w4 HED2.out).mono ?_
    rintro e w5 ⟨rfl, rfl⟩
    go_wp2_with fail
    refine (once_any s i ⟨op, str, n, f, b⟩ m l' k' kept'' w4 (by omega) HIL.out hl' HKEY.out).mono ?_
    rintro e w5 ⟨rfl, b5⟩
    have HED3 := Go.Lib.hid (HED2.out.same b5)
    have B5 : Hid (Below w.heap.size w w5) := B4.out.trans (b5.mono B4.out.size)
    clear b5 g0 g1 c0 c1 c2 c3 c4
    go_wp2_with fail
    have b6 : Below w5.heap.size w5 (w5.alloc (.cells #[.string (runesBytes l'), .int .i64 (k' : Nat)] 23)) := (Below.refl _ _).alloc (Nat.le_refl _) _
    refine (bad_any eb _ _ _ _ _ _ (HED3.out.same b6)).mono ?_
    rintro e w6 ⟨rfl, rfl⟩
    have HED4 := Go.Lib.hid (HED3.out.same b6)
    have B6 : Hid (Below w.heap.size w (w5.alloc (.cells #[.string (runesBytes l'), .int .i64 (k' : Nat)] 23))) := B5.out.trans (b6.mono B5.out.size)
    clear b6
    go_wp2_with fail
    obtain ⟨W, hW⟩ : ∃ W, W = w5.alloc (.cells #[.string (runesBytes l'), .int .i64 (k' : Nat)] 23) := ⟨_, rfl⟩
    have r0 : W.cell? ⟨w5.heap.size, 0, none⟩ = some (.string (runesBytes l')) := by rw [hW]; simp [go_sem]
    have r1 : W.cell? ⟨w5.heap.size, 1, none⟩ = some (.int .i64 (k' : Nat)) := by rw [hW]; simp [go_sem]
    have rz : w5.heap.size < W.heap.size := by rw [hW]; simp
    rw [← hW] at HED4 B6 ⊢
    clear hW
    have HLN := Go.Lib.hid (line_any eb l' k' kept' false false W.drew (HED4.out.same (Below.refl _ _).drew))
    generalize runesBytes l' = out at r0 HLN ⊢
    go_region_with ((go_at_call 13; refine HLN.out.mono ?_; rintro e w7 ⟨rfl, b7⟩; have t0 := (b7.cell (p := ⟨w5.heap.size, 0, none⟩) rz).trans r0; have t1 := (b7.cell (p := ⟨w5.heap.size, 1, none⟩) rz).trans r1; have B7 : Hid (Below w.heap.size w w7) := B6.out.drew.trans (b7.mono B6.out.size); clear b7))
    all_goals (try go_simp)
    all_goals (try go_wp2_with fail)
    all_goals go_returns
    all_goals exact ⟨rfl, B7.out⟩
end Go.Proofs.YtdggmnpggphdcaaDoor
