/- The contracts of impl.Colourless and spec.Colourless. -/
import Derived.Test.YtkljpbpojbhbbaaDoorColorFilter
import Derived.Test.YtkljpbpojbhbbaaDoorCaught
import Derived.Test.YtkljpbpojbhbbaaDoorUtf
namespace Go.Proofs.YtkljpbpojbhbbaaDoor
open Go.RowKit
set_option linter.unusedVariables false
set_option linter.unusedSimpArgs false

/-- A slice of code points as a text. -/
theorem conv_runes (W : World) (B c : Nat) (F : List Int) (h : ∀ j, j < F.length → W.cell? ⟨B, j, none⟩ = some (.int .i32 (nth F j))) :
    (convert 31 9 (.slice (some ⟨B, 0, none⟩) F.length c)).run Tryd.prog W = .ok (.string (runesBytes F)) W := by
  have ha : ∀ j, (⟨B, 0, none⟩ : Addr).add j = ⟨B, j, none⟩ := fun j => by
    unfold Addr.add
    by_cases e : j = 0
    · rw [if_pos e, e]
    · rw [if_neg e, Nat.zero_add]
  have := run_convert_runes (P := Tryd.prog) W 31 9 21 ⟨B, 0, none⟩ F.length c F (Nat.le_refl _) Tryd.underlying31 Tryd.underlying21 Tryd.underlying9 (fun j hj => by rw [ha]; exact h j hj)
  simpa using this

/-- The text without its sequences, where there is one. -/
def ClPost (s : ByteArray) (p1 : Addr) (w : World) (e : Ending) (w' : World) : Prop :=
  (∃ F W', colF (runes s) = some F ∧ e = .returned (.tuple #[]) ∧ Below w.heap.size w W' ∧ w' = W'.setCell p1 (.string (runesBytes F))) ∨
  (colF (runes s) = none ∧ ∃ u v, e = .panicked [{ v := .iface u v, recovered := false }] ∧ Below w.heap.size w w')

theorem closure_cl (s : ByteArray) (b : Nat) (v : Value) (w : World) (hs : s.size ≤ 300) (c0 : w.cell? ⟨b, 0, none⟩ = some (.string s)) (c1 : w.cell? ⟨b + 1, 0, none⟩ = some v) (f1 : w.frozen? ⟨b + 1, 0, none⟩ = false) :
    Calls Tryd.prog 40 #[.pointer (some ⟨b, 0, none⟩), .pointer (some ⟨b + 1, 0, none⟩)] w (ClPost s ⟨b + 1, 0, none⟩ w) := by
  have hk := fun w => run_runes (P := Tryd.prog) w 9 31 21 s Tryd.underlying9 Tryd.underlying31 Tryd.underlying21 (by omega)
  have hl := runes_length s
  have l1 := lt_of_cell c1
  go_enter Tryd.func40, Tryd.ntmps40
  go_wp2_with fail
  refine (filter_any _ w.heap.size _ (runes s).length (runes s) rfl ?_ (by omega) (runeCap_ge _ _ _) ?_ ?_).mono ?_
  · intro j hj
    simp [runeCells_at s _ j hj, go_sem]
  · have := grownCap_le_maxLen w (runes s).length 0 21 (by unfold maxLen; omega)
    unfold maxLen at this; exact this
  · simp
  rintro e w1 hp
  have HP := Go.Lib.hid hp
  clear hp
  rcases HP.out with ⟨F, B, c, hF, rfl, hb, hFl, hcell⟩ | ⟨hF, u, pv, rfl, hb⟩
  · have hb' : Below w.heap.size w w1 := ((Below.refl _ w).drew.alloc (Nat.le_refl _) _).trans (hb.mono (by simp))
    have c1' : w1.cell? ⟨b + 1, 0, none⟩ = some v := (hb'.cell (p := ⟨b + 1, 0, none⟩) l1).trans c1
    have f1' : w1.frozen? ⟨b + 1, 0, none⟩ = false := (hb'.frozen (p := ⟨b + 1, 0, none⟩) l1).trans f1
    have hcv := conv_runes w1 B c F hcell
    have HF := Go.Lib.hid hF
    clear hF hcell hb hk c0 c1 f1
    go_wp2_with fail
    go_returns
    exact .inl ⟨F, w1, HF.out, rfl, hb', rfl⟩
  · have hb' : Below w.heap.size w w1 := ((Below.refl _ w).drew.alloc (Nat.le_refl _) _).trans (hb.mono (by simp))
    have HF := Go.Lib.hid hF
    clear hF hb hk
    go_wp2_with fail
    refine ⟨rfl, .inr ⟨HF.out, u, pv, rfl, hb'⟩⟩

theorem caught_cl (s : ByteArray) (b : Nat) (v : Value) (W : World) (hs : s.size ≤ 300) (c0 : W.cell? ⟨b, 0, none⟩ = some (.string s)) (c1 : W.cell? ⟨b + 1, 0, none⟩ = some v) (f1 : W.frozen? ⟨b + 1, 0, none⟩ = false) :
    Calls Tryd.prog 39 #[.func (.func 40) #[] #[.pointer (some ⟨b, 0, none⟩), .pointer (some ⟨b + 1, 0, none⟩)]] W fun e w' =>
      (∃ F, colF (runes s) = some F ∧ e = .returned (.bool true) ∧ Below b W w' ∧ w'.cell? ⟨b + 1, 0, none⟩ = some (.string (runesBytes F)) ∧ w'.frozen? ⟨b + 1, 0, none⟩ = false) ∨
      (colF (runes s) = none ∧ e = .returned (.bool false) ∧ Below b W w' ∧ w'.cell? ⟨b + 1, 0, none⟩ = some v ∧ w'.frozen? ⟨b + 1, 0, none⟩ = false) := by
  have eg : Enters Tryd.prog 40 := enters_of Tryd.func40 (by kernel_rfl) rfl
  have l1 := lt_of_cell c1
  have l0 := lt_of_cell c0
  have hcl := closure_cl s b v (W.alloc (.cells #[.bool false] 4)) hs (by rw [World.cell?_alloc_past _ _ _ l0]; exact c0) (by rw [World.cell?_alloc_past _ _ _ l1]; exact c1) (by simpa [go_sem, l1] using f1)
  cases hF : colF (runes s) with
  | some F =>
    refine (caught_ret 40 _ W (fun w1 => ∃ W', Below (W.heap.size + 1) (W.alloc (.cells #[.bool false] 4)) W' ∧ w1 = W'.setCell ⟨b + 1, 0, none⟩ (.string (runesBytes F))) eg ?_).mono ?_
    · refine hcl.mono ?_
      rintro e w1 (⟨F', W', h1, rfl, hb, rfl⟩ | ⟨h1, _⟩)
      · obtain rfl : F = F' := by rw [hF] at h1; cases h1; rfl
        have hb' : Below (W.heap.size + 1) (W.alloc (.cells #[.bool false] 4)) W' := hb.mono (by simp)
        have hh : (W'.setCell ⟨b + 1, 0, none⟩ (.string (runesBytes F))).heap[W.heap.size]? = (W.alloc (.cells #[.bool false] 4)).heap[W.heap.size]? := (Below.heap_setCell _ _ _ _ (show W.heap.size ≠ b + 1 by omega)).trans (hb'.block _ (by omega))
        exact ⟨rfl, ⟨W', hb', rfl⟩, (World.cell?_of_block (a := ⟨W.heap.size, 0, none⟩) hh).trans (by simp), (World.frozen?_of_block (a := ⟨W.heap.size, 0, none⟩) hh).trans (by simp)⟩
      · rw [hF] at h1; cases h1
    rintro e w1 ⟨rfl, w2, ⟨W', hb, rfl⟩, rfl⟩
    have hb' : Below W.heap.size W W' := ((Below.refl _ _).alloc (Nat.le_refl _) _).trans (hb.mono (by simp))
    have h1 : W'.cell? ⟨b + 1, 0, none⟩ = some v := (hb'.cell (p := ⟨b + 1, 0, none⟩) l1).trans c1
    have g1 : W'.frozen? ⟨b + 1, 0, none⟩ = false := (hb'.frozen (p := ⟨b + 1, 0, none⟩) l1).trans f1
    refine .inl ⟨F, rfl, rfl, ((hb'.mono (by omega)).setCell (show b ≤ b + 1 by omega) _).setCell (show b ≤ W.heap.size by omega) _, ?_, ?_⟩
    · rw [World.cell?_setCell_other _ _ _ _ (by intro e; have := congrArg Addr.block e; simp at this; omega), World.cell?_setCell_same' _ _ _ (by rw [h1]; rfl)]
    · simpa [go_sem] using g1
  | none =>
    refine (caught_panic 40 _ W (fun w1 => Below (W.heap.size + 1) (W.alloc (.cells #[.bool false] 4)) w1) eg ?_).mono ?_
    · refine hcl.mono ?_
      rintro e w1 (⟨F', W', h1, _⟩ | ⟨_, u, pv, rfl, hb⟩)
      · rw [hF] at h1; cases h1
      · have hb' : Below (W.heap.size + 1) (W.alloc (.cells #[.bool false] 4)) w1 := hb.mono (by simp)
        have hh := hb'.block W.heap.size (by omega)
        exact ⟨u, pv, rfl, hb', (World.cell?_of_block (a := ⟨W.heap.size, 0, none⟩) hh).trans (by simp), (World.frozen?_of_block (a := ⟨W.heap.size, 0, none⟩) hh).trans (by simp)⟩
    rintro e w1 ⟨rfl, W', hb, rfl⟩
    have hb' : Below W.heap.size W W' := ((Below.refl _ _).alloc (Nat.le_refl _) _).trans (hb.mono (by simp))
    have h1 : W'.cell? ⟨b + 1, 0, none⟩ = some v := (hb'.cell (p := ⟨b + 1, 0, none⟩) l1).trans c1
    have g1 : W'.frozen? ⟨b + 1, 0, none⟩ = false := (hb'.frozen (p := ⟨b + 1, 0, none⟩) l1).trans f1
    refine .inr ⟨rfl, rfl, (hb'.mono (by omega)).setCell (show b ≤ W.heap.size by omega) _, ?_, ?_⟩
    · rw [World.cell?_setCell_other _ _ _ _ (by intro e; have := congrArg Addr.block e; simp at this; omega), h1]
    · simpa [go_sem] using g1

/-- What impl.Colourless tells. -/
def ImplCl (s : ByteArray) (w : World) (e : Ending) (w' : World) : Prop :=
  (∃ F, colF (runes s) = some F ∧ e = .returned (.tuple #[.string (runesBytes F), .bool true]) ∧ Below w.heap.size w w') ∨
  (colF (runes s) = none ∧ e = .returned (.tuple #[.string ⟨#[]⟩, .bool false]) ∧ Below w.heap.size w w')

theorem impl_cl (s : ByteArray) (w : World) (hs : s.size ≤ 300) : Calls Tryd.prog 13 #[.string s] w (ImplCl s w) := by
  have hmf : ∀ (fn : Fn) (first cap : Array Value) (w : World), (Instr.makeFunc fn first cap).run Tryd.prog w = .ok (.func fn first cap) w := fun _ _ _ _ => rfl
  go_enter Tryd.func13, Tryd.ntmps13
  go_wp2_with fail
  refine (caught_cl s w.heap.size (.string ⟨#[]⟩) _ hs ?_ ?_ ?_).mono ?_
  · simp [go_sem]
  · simp [go_sem]
  · simp [go_sem]
  rintro e w1 (⟨F, hF, rfl, hb, hc, hf⟩ | ⟨hF, rfl, hb, hc, hf⟩)
  · have HF := Go.Lib.hid hF
    have hb' : Below w.heap.size w w1 := (((Below.refl _ _).alloc (Nat.le_refl _) _).alloc (by simp) _).trans hb
    clear hF hb
    go_wp2_with fail
    have hcc := World.cell?_setCell_same' w1 ⟨w.heap.size + 1, 0, none⟩ (.string (runesBytes F)) (by rw [hc]; rfl)
    refine bodyPost_ret (v := .tuple #[.string (runesBytes F), .bool true]) (by simp [results, Tryd.results13, go_sem, hcc]) rfl ?_
    exact .inl ⟨F, HF.out, rfl, hb'.setCell (by simp) _⟩
  · have HF := Go.Lib.hid hF
    have hb' : Below w.heap.size w w1 := (((Below.refl _ _).alloc (Nat.le_refl _) _).alloc (by simp) _).trans hb
    clear hF hb
    go_wp2_with fail
    have hcc := World.cell?_setCell_same' w1 ⟨w.heap.size + 1, 0, none⟩ (.string ⟨#[]⟩) (by rw [hc]; rfl)
    refine bodyPost_ret (v := .tuple #[.string ⟨#[]⟩, .bool false]) (by simp [results, Tryd.results13, go_sem, hcc]) rfl ?_
    exact .inr ⟨HF.out, rfl, hb'.setCell (by simp) _⟩
end Go.Proofs.YtkljpbpojbhbbaaDoor
