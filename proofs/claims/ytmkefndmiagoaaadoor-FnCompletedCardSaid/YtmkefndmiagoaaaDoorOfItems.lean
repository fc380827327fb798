/- impl.items: completers of words and those beneath them. -/
import Derived.Test.YtmkefndmiagoaaaDoorOfNode
namespace Go.Proofs.YtmkefndmiagoaaaDoor
open Go.RowKit
set_option linter.unusedVariables false
set_option linter.unusedSimpArgs false

/-- Words with those beneath them, as a row of words with sizes. -/
def flatW (T : List (ByteArray × List ByteArray)) : List (ByteArray × Int) := T.flatMap fun t => (t.1, 1 + (t.2.length : Int)) :: t.2.map fun k => (k, (1 : Int))
def WordsAt (w : World) (A : Option Addr) (ws : List (ByteArray × Int)) : Prop :=
  ws = [] ∨ ∃ b o, A = some ⟨b, o, none⟩ ∧ b < w.heap.size ∧ ∀ (j : Nat) (x : ByteArray × Int), ws[j]? = some x → w.cell? ⟨b, o + j * 2, none⟩ = some (.string x.1) ∧ w.cell? ⟨b, o + j * 2 + 1, none⟩ = some (.int .i64 x.2)
theorem WordsAt.below {w w' : World} {A : Option Addr} {ws : List (ByteArray × Int)} (h : WordsAt w A ws) (hb : Below w.heap.size w w') : WordsAt w' A ws := by
  rcases h with h | ⟨b, o, ha, hl, hc⟩
  · exact .inl h
  · exact .inr ⟨b, o, ha, Nat.lt_of_lt_of_le hl hb.size, fun j x hx => ⟨(hb.cell (p := ⟨b, o + j * 2, none⟩) hl).trans (hc j x hx).1, (hb.cell (p := ⟨b, o + j * 2 + 1, none⟩) hl).trans (hc j x hx).2⟩⟩

/-- A completer whose blocks have a property. -/
def NamedD (w : World) (D : Nat → Prop) (p : Nat) (s : ByteArray) : Prop :=
  ∃ g c, w.cell? ⟨p, 0, none⟩ = some (.slice (some ⟨g, 0, none⟩) (s.size + 1) c) ∧ w.cell? ⟨p, 1, none⟩ = some (.bool false) ∧ s.size + 1 ≤ c ∧ g < w.heap.size ∧ p < w.heap.size ∧ RuneRow w (some ⟨g, 0, none⟩) (runes s ++ [32]) ∧ D g ∧ D p
theorem NamedD.named {w : World} {D : Nat → Prop} {p : Nat} {s : ByteArray} (h : NamedD w D p s) : Named w p s := by
  obtain ⟨g, c, h1, h2, h3, h4, h5, h6, _⟩ := h
  exact ⟨g, c, h1, h2, h3, h4, h5, h6⟩
/-- Blocks with a property stand. -/
def Stand (w w' : World) (D : Nat → Prop) : Prop := w.heap.size ≤ w'.heap.size ∧ ∀ k, k < w.heap.size → D k → w'.heap[k]? = w.heap[k]?
theorem Stand.of {w w' : World} (h : Below w.heap.size w w') (D : Nat → Prop) : Stand w w' D := ⟨h.size, fun k hk _ => h.block k hk⟩
theorem NamedD.stand {w w' : World} {D E : Nat → Prop} {p : Nat} {s : ByteArray} (h : NamedD w D p s) (hs : Stand w w' D) (hE : ∀ q, q < w.heap.size → D q → E q) : NamedD w' E p s := by
  obtain ⟨g, c, h1, h2, h3, h4, h5, h6, dg, dp⟩ := h
  have ep := hs.2 p h5 dp
  have eg := hs.2 g h4 dg
  refine ⟨g, c, (World.cell?_of_block (w := w) ep).trans h1, (World.cell?_of_block (w := w) ep).trans h2, h3, Nat.lt_of_lt_of_le h4 hs.1, Nat.lt_of_lt_of_le h5 hs.1, fun j hj => ?_, hE g h4 dg, hE p h5 dp⟩
  obtain ⟨g', o, e, hc⟩ := h6 j hj
  cases e
  exact ⟨g, 0, rfl, (World.cell?_of_block (w := w) eg).trans hc⟩
/-- A row of completers that stand beneath another one: words alone. -/
def LeavesD (w : World) (D : Nat → Prop) (A : Option Addr) (ks : List ByteArray) : Prop :=
  ks = [] ∨ ∃ b o, A = some ⟨b, o, none⟩ ∧ D b ∧ b < w.heap.size ∧ ∀ j, j < ks.length → ∃ q, w.cell? ⟨b, o + j, none⟩ = some (pcV q) ∧ NamedD w D q (txt ks j)
theorem LeavesD.stand {w w' : World} {D E : Nat → Prop} {A : Option Addr} {ks : List ByteArray} (h : LeavesD w D A ks) (hs : Stand w w' D) (hE : ∀ q, q < w.heap.size → D q → E q) : LeavesD w' E A ks := by
  rcases h with h | ⟨b, o, ha, db, hb, hc⟩
  · exact .inl h
  · refine .inr ⟨b, o, ha, hE b hb db, Nat.lt_of_lt_of_le hb hs.1, fun j hj => ?_⟩
    obtain ⟨q, h1, h2⟩ := hc j hj
    exact ⟨q, (World.cell?_of_block (w := w) (hs.2 b hb db)).trans h1, h2.stand hs hE⟩
def NodeD (w : World) (D : Nat → Prop) (p : Nat) (t : ByteArray × List ByteArray) : Prop :=
  NamedD w D p t.1 ∧ p < w.heap.size ∧ D p ∧ ∃ A c, w.cell? ⟨p, 3, none⟩ = some (.slice A t.2.length c) ∧ LeavesD w D A t.2
theorem NodeD.stand {w w' : World} {D E : Nat → Prop} {p : Nat} {t : ByteArray × List ByteArray} (h : NodeD w D p t) (hs : Stand w w' D) (hE : ∀ q, q < w.heap.size → D q → E q) : NodeD w' E p t := by
  obtain ⟨h1, h2, h3, A, c, h4, h5⟩ := h
  exact ⟨h1.stand hs hE, Nat.lt_of_lt_of_le h2 hs.1, hE p h2 h3, A, c, (World.cell?_of_block (w := w) (hs.2 p h2 h3)).trans h4, h5.stand hs hE⟩
/-- A row of completers, each with those beneath it. -/
def KidsD (w : World) (D : Nat → Prop) (A : Option Addr) (T : List (ByteArray × List ByteArray)) : Prop :=
  T = [] ∨ ∃ b o, A = some ⟨b, o, none⟩ ∧ D b ∧ b < w.heap.size ∧ ∀ (j : Nat) (t : ByteArray × List ByteArray), T[j]? = some t → ∃ q, w.cell? ⟨b, o + j, none⟩ = some (pcV q) ∧ NodeD w D q t
theorem KidsD.leaves {w : World} {D : Nat → Prop} {A : Option Addr} {ks : List ByteArray} (h : KidsD w D A (ks.map fun k => (k, []))) : LeavesD w D A ks := by
  rcases h with h | ⟨b, o, ha, db, hb, hc⟩
  · exact .inl (by simpa using h)
  · refine .inr ⟨b, o, ha, db, hb, fun j hj => ?_⟩
    obtain ⟨q, h1, h2⟩ := hc j (txt ks j, []) (by rw [List.getElem?_map]; simp [txt, hj])
    exact ⟨q, h1, h2.1⟩

def PcPost (s : ByteArray) (K : Value) (w : World) (e : Ending) (w' : World) : Prop :=
  ∃ p, e = .returned (.pointer (some ⟨p, 0, none⟩)) ∧ NamedD w' (fun q => w.heap.size ≤ q) p s ∧ w'.cell? ⟨p, 3, none⟩ = some K ∧ Below w.heap.size w w'
set_option maxHeartbeats 4000000 in
theorem pcItem_any (s : ByteArray) (A : Option Addr) (n c : Nat) (w : World) (hs : IsSmall s) (hz : s.size ≤ 100) : Calls Tryd.prog 25 #[.string s, .slice A n c] w (PcPost s (.slice A n c) w) := by
  obtain ⟨x, hx⟩ : ∃ x, x = s ++ sp1 := ⟨_, rfl⟩
  have hasc : IsAscii x := by rw [hx]; exact hs.ascii.append sp1_ascii
  have hrr : runes x = runes s ++ [32] := by rw [hx, runes_cat s sp1 hs.ascii sp1_ascii, sp1_runes]
  have hln : (runes x).length = s.size + 1 := by rw [hrr, List.length_append, runes_ascii_length s hs.ascii]; rfl
  have hsz : x.size = s.size + 1 := by rw [← hln, runes_ascii_length x hasc]
  have hcv1 := run_runes (P := Tryd.prog) w 9 51 21 x Tryd.underlying9 Tryd.underlying51 Tryd.underlying21 (by omega)
  have hge := runeCap_ge w 21 x
  have HROW : Hid (RuneRow (w.alloc (.cells (runeCells x (runeCap w 21 x)) 21)) (some ⟨w.heap.size, 0, none⟩) (runes s ++ [32])) := RuneRow.of fun j hj => by
    have := runeCells_at x (runeCap w 21 x) j (by rw [hrr]; exact hj)
    rw [hrr] at this
    simpa [go_sem] using this
  rw [hln] at hcv1 hge
  generalize runeCap w 21 x = cap at hge HROW hcv1
  generalize runeCells x cap = cells at HROW hcv1
  unfold sp1 at hx
  rw [hx] at hcv1
  clear hasc hrr hln hsz hx
  go_enter Tryd.func25, Tryd.ntmps25
  go_wp2_with fail
  go_returns
  refine ⟨w.heap.size + 1, rfl, ⟨w.heap.size, cap, by simp [go_sem], by simp [go_sem], hge, by simp <;> omega, by simp <;> omega, ?_, Nat.le_refl _, by omega⟩, by simp [go_sem], ?_⟩
  · exact HROW.out.mono ((Below.refl _ _).drew.alloc (by simp) _)
  · exact ((Below.refl _ _).alloc (Nat.le_refl _) _).drew.alloc (by simp) _
end Go.Proofs.YtmkefndmiagoaaaDoor
