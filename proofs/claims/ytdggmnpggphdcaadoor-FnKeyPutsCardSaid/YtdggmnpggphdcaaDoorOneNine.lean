/- laws.one9: one step on a line, by the package and by the reference. -/
import Derived.Test.YtdggmnpggphdcaaDoorEdMove
import Derived.Test.YtdggmnpggphdcaaDoorRbGuards
import Derived.Test.YtdggmnpggphdcaaDoorRbKeyed
namespace Go.Proofs.YtdggmnpggphdcaaDoor
open Go.RowKit
set_option linter.unusedVariables false
set_option linter.unusedSimpArgs false

/-- A step that is looked at. -/
def Keyd (e : Ky) : Prop := IsAscii e.s ∧ e.s.size ≤ 100 ∧ (e.op = 8 ∨ e.op = 19 → 0 < e.n ∧ e.n < 128)
def Key9Post (e : Ky) (w : World) (en : Ending) (w' : World) : Prop := ∃ b, en = .returned (.bool b) ∧ (b = true → Keyd e) ∧ Below w.heap.size w w'

def OncePost (out : ByteArray) (k' : Nat) (m : Int) (w : World) (e : Ending) (w' : World) : Prop :=
  e = .returned (.tuple #[.agg #[.string out, .int .i64 (k' : Nat)], .int .i64 m, .bool true]) ∧ Below w.heap.size w w'

set_option maxRecDepth 100000 in
set_option maxHeartbeats 4000000 in
theorem once_any (s : ByteArray) (at0 : Nat) (k : Ky) (m : Int) (l' : List Int) (k' : Nat) (kept' : List Int) (w : World) (hs : s.size ≤ 100000) (hat : at0 ≤ (runes s).length) (hl : l'.length ≤ 100000) (hk : KeyOk k (runes s) at0 [] m l' k' kept') :
    Calls Tryd.prog 11 #[.agg #[.string s, .int .i64 (at0 : Nat)], k.val] w (OncePost (runesBytes l') k' m w) := by
  have HK := Go.Lib.hid hk
  obtain ⟨op, str, n, f, b⟩ := k
  unfold Ky.val
  obtain ⟨W0, hW0⟩ : ∃ W0, W0 = ((w.alloc (.cells #[.string s, .int .i64 (at0 : Nat)] 23)).alloc (.cells #[.int .i64 op, .string str, .int .i64 n, .bool f, .bool b] 27)).alloc (.cells #[.string ⟨#[]⟩, .int .i64 0] 23) := ⟨_, rfl⟩
  have zW0 : W0.heap.size = w.heap.size + 1 + 1 + 1 := by rw [hW0]; simp
  have bW0 : Below w.heap.size w W0 := by rw [hW0]; exact (((Below.refl _ _).alloc (Nat.le_refl _) _).alloc (by simp) _).alloc (by simp; omega) _
  have o0 : W0.cell? ⟨w.heap.size + 1 + 1, 0, none⟩ = some (.string ⟨#[]⟩) := by rw [hW0]; simp [go_sem]
  have o1 : W0.cell? ⟨w.heap.size + 1 + 1, 1, none⟩ = some (.int .i64 0) := by rw [hW0]; simp [go_sem]
  have og : ∀ j, W0.frozen? ⟨w.heap.size + 1 + 1, j, none⟩ = false := fun j => by rw [hW0]; simp [go_sem]
  obtain ⟨W1, hW1⟩ : ∃ W1, W1 = W0.alloc (.cells #[.int .i64 20, .string s, .int .i64 (at0 : Nat), .bool false, .bool false, .int .i64 op, .string str, .int .i64 n, .bool f, .bool b] 27) := ⟨_, rfl⟩
  have bW1 : Below W0.heap.size W0 W1 := by rw [hW1]; exact (Below.refl _ _).alloc (Nat.le_refl _) _
  have zW1 : W1.heap.size = w.heap.size + 1 + 1 + 1 + 1 := by rw [hW1]; simp [zW0]
  have hkys := kys_new W0 [⟨20, s, at0, false, false⟩, ⟨op, str, n, f, b⟩] 27 #[.int .i64 20, .string s, .int .i64 (at0 : Nat), .bool false, .bool false, .int .i64 op, .string str, .int .i64 n, .bool f, .bool b] rfl
  rw [← hW1, zW0] at hkys
  have HC := Go.Lib.hid (keyed_any (w.heap.size + 1 + 1 + 1) 0 2 [⟨20, s, at0, false, false⟩, ⟨op, str, n, f, b⟩] [-1, m] l' kept' k' W1 (by omega) hkys (.cons (key_set [] 0 [] s hs at0 hat false false) (.cons hk (.nil _ _ _))) (by simp) hl)
  have B1 : Hid (Below w.heap.size w W1) := bW0.trans (bW1.mono (by omega))
  have p0 := (bW1.cell (p := ⟨w.heap.size + 1 + 1, 0, none⟩) (by show w.heap.size + 1 + 1 < _; omega)).trans o0
  have p1 := (bW1.cell (p := ⟨w.heap.size + 1 + 1, 1, none⟩) (by show w.heap.size + 1 + 1 < _; omega)).trans o1
  have pg : ∀ j, W1.frozen? ⟨w.heap.size + 1 + 1, j, none⟩ = false := fun j => (bW1.frozen (p := ⟨w.heap.size + 1 + 1, j, none⟩) (by show w.heap.size + 1 + 1 < _; omega)).trans (og j)
  have P0 := Go.Lib.hid p0
  have P1 := Go.Lib.hid p1
  have PG := Go.Lib.hid pg
  have ZW1 := Go.Lib.hid zW1
  rw [hW1, hW0] at HC
  rw [hW0] at hW1
  have HW1 := Go.Lib.hid hW1
  clear hk o0 o1 og bW0 bW1 zW0 zW1 hkys p0 p1 pg hW0 hW1 HK
  obtain ⟨out, hout⟩ : ∃ out, out = runesBytes l' := ⟨_, rfl⟩
  rw [← hout]
  have HOUT := Go.Lib.hid hout
  clear hout
  go_enter Tryd.func11, Tryd.ntmps11
  go_wp2_with fail
  refine HC.out.mono ?_
  rw [← HW1.out]
  rintro e w1 ⟨v, he, hown, b1⟩
  obtain ⟨g, cp, hv, hg, hlt, hcell⟩ : ∃ g cp, v = .slice (some ⟨g, 0, none⟩) 2 cp ∧ W1.heap.size ≤ g ∧ g < w1.heap.size ∧ w1.cell? ⟨g, 1, none⟩ = some (.int .i64 m) := by
    obtain ⟨_, ho⟩ := hown
    rcases ho with ⟨_, h0⟩ | ⟨g, c, cur, hv, hg, hh, hn, _, hcs, htk⟩
    · simp at h0
    · refine ⟨g, c, hv, hg, (Array.getElem?_eq_some_iff.1 hh).1, ?_⟩
      rw [World.cell?, hh]
      have := congrArg (·[1]?) htk
      simpa [ints] using this
  rw [← HOUT.out] at he
  subst hv
  subst he
  have z1 := b1.size
  rw [ZW1.out] at z1 hg
  have hz2 : w.heap.size + 1 + 1 < w1.heap.size := by omega
  have g1' : ¬ g = w1.heap.size := by omega
  have g3' : ¬ g = w.heap.size + 1 + 1 := by omega
  have g4' : ¬ w.heap.size + 1 + 1 = g := by omega
  have g5' : ¬ w.heap.size + 1 + 1 = w1.heap.size := by omega
  have g6' : ¬ w1.heap.size = w.heap.size + 1 + 1 := by omega
  have o0 := (b1.cell (p := ⟨w.heap.size + 1 + 1, 0, none⟩) (by show w.heap.size + 1 + 1 < _; rw [ZW1.out]; omega)).trans P0.out
  have o1 := (b1.cell (p := ⟨w.heap.size + 1 + 1, 1, none⟩) (by show w.heap.size + 1 + 1 < _; rw [ZW1.out]; omega)).trans P1.out
  have q0g := (b1.frozen (p := ⟨w.heap.size + 1 + 1, 0, none⟩) (by show w.heap.size + 1 + 1 < _; rw [ZW1.out]; omega)).trans (PG.out 0)
  have q1g := (b1.frozen (p := ⟨w.heap.size + 1 + 1, 1, none⟩) (by show w.heap.size + 1 + 1 < _; rw [ZW1.out]; omega)).trans (PG.out 1)
  have B2 : Hid (Below w.heap.size w w1) := B1.out.trans (b1.mono B1.out.size)
  clear hown b1 hg z1 HC P0 P1 PG
  go_wp2_with fail
  refine region_held_tail 5 (S := (fun w' => w'.cell? ⟨w1.heap.size, 0, none⟩ = some (.string out) ∧ w'.cell? ⟨w1.heap.size, 1, none⟩ = some (.int .i64 (k' : Nat)) ∧ w'.cell? ⟨g, 1, none⟩ = some (.int .i64 m))) (by kernel_rfl) (by kernel_rfl) ?_ (fun hHeld => ?_)
  · (try dsimp only); first | done | ((refine ⟨?_, ?_, ?_⟩ <;> simp [go_sem, hcell, hlt, g1', g3', g4', g5', g6']))
  refine HeldT.take (i := 0) (v := ?_) (by simp only [List.getElem?_toArray, List.getElem?_cons_succ, List.getElem?_cons_zero]; rfl) (by kernel_rfl) (by kernel_rfl) (by kernel_rfl) (by kernel_rfl) (by exact fun _ _ _ h => h) ?_ (by assumption) ?_
  rotate_left
  · refine Or.inl ⟨by rfl, ?_⟩
    (intro w hSw; (try dsimp only at hSw); go_simp; try with_reducible rfl)
  try simp only [Act.put, List.setIfInBounds_toArray, List.set_cons_zero, List.set_cons_succ]
  refine HeldT.take (i := 1) (v := ?_) (by simp only [List.getElem?_toArray, List.getElem?_cons_succ, List.getElem?_cons_zero]; rfl) (by kernel_rfl) (by kernel_rfl) (by kernel_rfl) (by kernel_rfl) (by exact fun _ _ _ h => h) ?_ (by assumption) ?_
  rotate_left
  · refine Or.inl ⟨by rfl, ?_⟩
    (intro w hSw; (try dsimp only at hSw); go_simp; try with_reducible rfl)
  try simp only [Act.put, List.setIfInBounds_toArray, List.set_cons_zero, List.set_cons_succ]
  refine HeldT.take (i := 2) (v := ?_) (by simp only [List.getElem?_toArray, List.getElem?_cons_succ, List.getElem?_cons_zero]; rfl) (by kernel_rfl) (by kernel_rfl) (by kernel_rfl) (by kernel_rfl) (by exact fun _ _ _ h => h) ?_ (by assumption) ?_
  rotate_left
  · refine Or.inl ⟨by rfl, ?_⟩
    (intro w hSw; (try dsimp only at hSw); go_simp; try with_reducible rfl)
  try simp only [Act.put, List.setIfInBounds_toArray, List.set_cons_zero, List.set_cons_succ]
  refine HeldT.take (i := 3) (v := ?_) (by simp only [List.getElem?_toArray, List.getElem?_cons_succ, List.getElem?_cons_zero]; rfl) (by kernel_rfl) (by kernel_rfl) (by kernel_rfl) (by kernel_rfl) (by exact fun _ _ _ h => h) ?_ (by assumption) ?_
  rotate_left
  · refine Or.inl ⟨by rfl, ?_⟩
    (intro w hSw; (try dsimp only at hSw); go_simp; try with_reducible rfl)
  try simp only [Act.put, List.setIfInBounds_toArray, List.set_cons_zero, List.set_cons_succ]
  refine HeldT.one (i := 4) (by simp only [List.getElem?_toArray, List.getElem?_cons_succ, List.getElem?_cons_zero]; rfl) (by kernel_rfl) (by kernel_rfl) (fun K hK => ?_)
  go_simp
  refine hK.out _ _ ?_ (fun hHeld => ?_)
  · (try dsimp only); first | done | ((refine ⟨?_, ?_, ?_⟩ <;> simp [go_sem, hcell, hlt, g1', g3', g4', g5', g6']))
  clear hK K
  try simp only [Act.put, List.setIfInBounds_toArray, List.set_cons_zero, List.set_cons_succ]
  refine HeldT.tail (by kernel_rfl) rfl ?_
  go_wp2_with fail
  have q0' : ((w1.setCell ⟨w.heap.size + 1 + 1, 0, none⟩ (.string out)).setCell ⟨w.heap.size + 1 + 1, 1, none⟩ (.int .i64 (k' : Nat))).cell? ⟨w.heap.size + 1 + 1, 0, none⟩ = some (.string out) := by
    rw [World.cell?_setCell_other _ _ _ _ (by simp), World.cell?_setCell_same' _ _ _ (by rw [o0]; rfl)]
  have q1' : ((w1.setCell ⟨w.heap.size + 1 + 1, 0, none⟩ (.string out)).setCell ⟨w.heap.size + 1 + 1, 1, none⟩ (.int .i64 (k' : Nat))).cell? ⟨w.heap.size + 1 + 1, 1, none⟩ = some (.int .i64 (k' : Nat)) :=
    World.cell?_setCell_same' _ _ _ (by rw [World.cell?_setCell_other _ _ _ _ (by simp), o1]; rfl)
  have B3 : Hid (Below w.heap.size w ((w1.setCell ⟨w.heap.size + 1 + 1, 0, none⟩ (.string out)).setCell ⟨w.heap.size + 1 + 1, 1, none⟩ (.int .i64 (k' : Nat)))) :=
    (B2.out.setCell (by show w.heap.size ≤ w.heap.size + 1 + 1; omega) _).setCell (by show w.heap.size ≤ w.heap.size + 1 + 1; omega) _
  have hsz : ((w1.setCell ⟨w.heap.size + 1 + 1, 0, none⟩ (.string out)).setCell ⟨w.heap.size + 1 + 1, 1, none⟩ (.int .i64 (k' : Nat))).heap.size = w1.heap.size := by simp [World.setCell]
  generalize ((w1.setCell ⟨w.heap.size + 1 + 1, 0, none⟩ (.string out)).setCell ⟨w.heap.size + 1 + 1, 1, none⟩ (.int .i64 (k' : Nat))) = W2 at q0' q1' B3 hsz ⊢
  have hb : Below W2.heap.size W2 (W2.alloc (.cells #[.string out, .int .i64 (k' : Nat)] 23)).drew := ((Below.refl _ _).alloc (Nat.le_refl _) _).drew
  have q0 := (hb.cell (p := ⟨w.heap.size + 1 + 1, 0, none⟩) (by show w.heap.size + 1 + 1 < _; omega)).trans q0'
  have q1 := (hb.cell (p := ⟨w.heap.size + 1 + 1, 1, none⟩) (by show w.heap.size + 1 + 1 < _; omega)).trans q1'
  have B4 := B3.out.trans (hb.mono (by omega))
  refine bodyPost_ret (v := .tuple #[.agg #[.string out, .int .i64 (k' : Nat)], .int .i64 m, .bool true]) ?_ rfl ⟨rfl, B4⟩
  clear q0' q1' hsz hHeld o0 o1 hcell
  generalize (W2.alloc (.cells #[.string out, .int .i64 (k' : Nat)] 23)).drew = W3 at q0 q1 ⊢
  simp [results, Tryd.results11, go_sem, q0, q1]
end Go.Proofs.YtdggmnpggphdcaaDoor
