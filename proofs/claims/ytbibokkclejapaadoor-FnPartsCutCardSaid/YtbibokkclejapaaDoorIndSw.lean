/- ansi.Writer over a bytes.Buffer that lies at an offset of a block: what it holds as long as no sequence is seen. -/
import Derived.Test.YtbibokkclejapaaDoorIndPut
import Derived.Test.YtbibokkclejapaaDoorIndNew
import Derived.Handy
namespace Go.Proofs.YtbibokkclejapaaDoor
open Go.RowKit
set_option linter.unusedVariables false
set_option linter.unusedSimpArgs false
variable {X : Nat → Prop}

/-- The slice that a writer of sequences has for a sign's bytes: none, or a row of four. -/
def runeB : Option Nat → Value
  | none => .slice none 0 0
  | some r => .slice (some ⟨r, 0, none⟩) 4 4
/-- A writer of sequences at ⟨ab, 0⟩ that hands on to the buffer at ⟨b, q⟩, with no sequence seen; the blocks X are none of its own. -/
structure SWc (X : Nat → Prop) (B ab b q : Nat) (A : Option Addr) (R : Option Nat) (w : World) (l : List UInt8) : Prop where
  buf : ∃ cap, BA w b q A cap l
  hb : B ≤ b
  hab : B ≤ ab
  ne : ab ≠ b
  rowA : ∀ g, A = some ⟨g, 0, none⟩ → B ≤ g ∧ g ≠ ab ∧ R ≠ some g
  rowR : ∀ r, R = some r → B ≤ r ∧ r ≠ ab ∧ r ≠ b ∧ ∃ cur, w.heap[r]? = some (.cells cur 5 (0, 0)) ∧ cur.size = 4
  c0 : w.cell? ⟨ab, 0, none⟩ = some (.iface 58 (.pointer (some ⟨b, q, none⟩)))
  c1 : w.cell? ⟨ab, 1, none⟩ = some (.bool false)
  c5 : w.cell? ⟨ab, 5, none⟩ = some (.slice none 0 0)
  c6 : w.cell? ⟨ab, 6, none⟩ = some (.int .i64 0)
  c7 : ∃ lr, w.cell? ⟨ab, 7, none⟩ = some (.int .i8 lr)
  c8 : w.cell? ⟨ab, 8, none⟩ = some (.bool false)
  c9 : w.cell? ⟨ab, 9, none⟩ = some (runeB R)
  fz : ∀ j, w.frozen? ⟨ab, j, none⟩ = false
  av : ∀ k, X k → k < w.heap.size ∧ k ≠ ab ∧ k ≠ b ∧ A ≠ some ⟨k, 0, none⟩ ∧ R ≠ some k
def SW (X : Nat → Prop) (B ab b q : Nat) (w : World) (l : List UInt8) : Prop := ∃ A R, SWc X B ab b q A R w l
/-- What a write through such a writer leaves alone: what lies below B, the other cells of the buffer's block, what is no row of bytes. -/
structure On (X : Nat → Prop) (B ab b q : Nat) (w w' : World) : Prop where
  below : Below B w w'
  oth : ∀ (k : Nat) (o : Obj), w.heap[k]? = some o → k ≠ b → k ≠ ab → (∀ c fz, o ≠ .cells c 5 fz) → w'.heap[k]? = some o
  cells : ∀ o, o ≠ q → o ≠ q + 1 → o ≠ q + 2 → w'.cell? ⟨b, o, none⟩ = w.cell? ⟨b, o, none⟩
  fz : ∀ j, w'.frozen? ⟨b, j, none⟩ = w.frozen? ⟨b, j, none⟩
  av : ∀ k, X k → k < w.heap.size → w'.heap[k]? = w.heap[k]?
theorem On.refl (B ab b q : Nat) (w : World) : On X B ab b q w w := ⟨Below.refl _ _, fun _ _ h _ _ _ => h, fun _ _ _ _ => rfl, fun _ => rfl, fun _ _ _ => rfl⟩
theorem On.trans {B ab b q : Nat} {w1 w2 w3 : World} (h : On X B ab b q w1 w2) (k : On X B ab b q w2 w3) : On X B ab b q w1 w3 :=
  ⟨h.below.trans k.below, fun i o hi h1 h2 h3 => k.oth i o (h.oth i o hi h1 h2 h3) h1 h2 h3, fun o h1 h2 h3 => (k.cells o h1 h2 h3).trans (h.cells o h1 h2 h3), fun j => (k.fz j).trans (h.fz j), fun i hx hi => (k.av i hx (Nat.lt_of_lt_of_le hi h.below.size)).trans (h.av i hx hi)⟩
theorem On.of {B ab b q : Nat} {w w' : World} (hb : Below w.heap.size w w') (hB : B ≤ w.heap.size) (hz : b < w.heap.size) : On X B ab b q w w' :=
  ⟨hb.mono hB, fun k o hk _ _ _ => (hb.block k (Array.getElem?_eq_some_iff.1 hk).1).trans hk, fun o _ _ _ => hb.cell (p := ⟨b, o, none⟩) hz, fun j => hb.frozen (p := ⟨b, j, none⟩) hz, fun k _ hk => hb.block k hk⟩
theorem iter_ne {w : World} {k : Nat} {s : ByteArray} {pos : Nat} {a : Addr} {v : Value} (h : w.heap[k]? = some (Obj.stringIter s pos)) (hc : w.cell? a = some v) : k ≠ a.block := by
  rintro rfl
  rw [World.cell?, h] at hc
  cases hc
theorem SWc.lt {B ab b q : Nat} {A : Option Addr} {R : Option Nat} {w : World} {l : List UInt8} (h : SWc X B ab b q A R w l) : b < w.heap.size ∧ ab < w.heap.size := by
  obtain ⟨cap, hb⟩ := h.buf
  exact ⟨lt_of_cell hb.c0, lt_of_cell h.c0⟩
theorem SWc.ltR {B ab b q : Nat} {A : Option Addr} {R : Option Nat} {w : World} {l : List UInt8} (h : SWc X B ab b q A R w l) {r : Nat} (hr : R = some r) : r < w.heap.size := by
  obtain ⟨_, _, _, cur, hc, _⟩ := h.rowR r hr
  exact (Array.getElem?_eq_some_iff.1 hc).1
theorem SWc.ltA {B ab b q : Nat} {A : Option Addr} {R : Option Nat} {w : World} {l : List UInt8} (h : SWc X B ab b q A R w l) {g : Nat} (hg : A = some ⟨g, 0, none⟩) : g < w.heap.size ∧ g ≠ b := by
  obtain ⟨cap, hb⟩ := h.buf
  rcases hb.row with ⟨h1, _⟩ | ⟨g', cur, h1, h2, _, _, _, _, h3⟩
  · rw [hg] at h1; cases h1
  · rw [hg] at h1
    cases h1
    exact ⟨(Array.getElem?_eq_some_iff.1 h2).1, h3⟩
/-- The writer stands where all blocks but b and the row A do, and the buffer is what is told. -/
theorem SWc.keep {B ab b q : Nat} {A A' : Option Addr} {R : Option Nat} {w w' : World} {l l' : List UInt8} (h : SWc X B ab b q A R w l)
    (hb' : ∃ cap, BA w' b q A' cap l') (hA' : A' = A ∨ ∃ g, A' = some ⟨g, 0, none⟩ ∧ w.heap.size ≤ g) (hk : ∀ k, k < w.heap.size → k ≠ b → A ≠ some ⟨k, 0, none⟩ → w'.heap[k]? = w.heap[k]?) : SWc X B ab b q A' R w' l' := by
  have hz := h.lt
  have ha := hk ab hz.2 h.ne (fun e => (h.rowA ab e).2.1 rfl)
  have hc : ∀ o, w'.cell? ⟨ab, o, none⟩ = w.cell? ⟨ab, o, none⟩ := fun o => World.cell?_of_block (w := w) ha
  obtain ⟨lr, c7⟩ := h.c7
  refine ⟨hb', h.hb, h.hab, h.ne, fun g hg => ?_, fun r hr => ?_, (hc 0).trans h.c0, (hc 1).trans h.c1, (hc 5).trans h.c5, (hc 6).trans h.c6, ⟨lr, (hc 7).trans c7⟩, (hc 8).trans h.c8, (hc 9).trans h.c9, fun j => (World.frozen?_of_block (w := w) ha).trans (h.fz j), fun k hx => ?_⟩
  · rcases hA' with rfl | ⟨g', rfl, h2⟩
    · exact h.rowA g hg
    · cases hg
      refine ⟨Nat.le_trans h.hb (Nat.le_trans (Nat.le_of_lt hz.1) h2), by omega, fun e => ?_⟩
      have := h.ltR e
      omega
  · obtain ⟨h1, h2, h3, cur, h4, h5⟩ := h.rowR r hr
    exact ⟨h1, h2, h3, cur, (hk r (h.ltR hr) h3 (fun e => (h.rowA r e).2.2 hr)).trans h4, h5⟩
  · obtain ⟨k1, k2, k3, k4, k5⟩ := h.av k hx
    have hkk := hk k k1 k3 k4
    refine ⟨?_, k2, k3, ?_, k5⟩
    · rw [Array.getElem?_eq_getElem k1] at hkk
      exact (Array.getElem?_eq_some_iff.1 hkk).1
    · rcases hA' with rfl | ⟨g', rfl, h2⟩
      · exact k4
      · intro e
        injection e with e
        injection e with e
        omega
theorem SWc.fr {B ab b q : Nat} {A A' : Option Addr} {R : Option Nat} {w w' : World} {l l' : List UInt8} {cap' : Nat} (h : SWc X B ab b q A R w l) (hb' : BA w' b q A' cap' l') (hf : Fr b q A A' w w') : SWc X B ab b q A' R w' l' ∧ On X B ab b q w w' := by
  have hz := h.lt
  refine ⟨h.keep ⟨cap', hb'⟩ (by rcases hf.row with h1 | ⟨g, h1, h2, _⟩; exact .inl h1; exact .inr ⟨g, h1, h2⟩) hf.rest, ⟨hf.os, hf.tape, hf.output, hf.size, fun k hk => hf.rest k ?_ ?_ ?_⟩, fun k o hk k1 k2 k3 => (hf.rest k (Array.getElem?_eq_some_iff.1 hk).1 k1 ?_).trans hk, hf.cells, hf.fz, fun k hx hk => ?_⟩
  · have := h.hb; omega
  · have := h.hb; omega
  · intro e
    have := (h.rowA k e).1
    omega
  · intro e
    obtain ⟨cap, hb⟩ := h.buf
    rcases hb.row with ⟨h1, _⟩ | ⟨g', cur, h1, h2, _⟩
    · rw [e] at h1; cases h1
    · rw [e] at h1
      cases h1
      rw [hk] at h2
      exact k3 _ _ (Option.some.inj h2)
  · obtain ⟨k1, k2, k3, k4, k5⟩ := h.av k hx
    exact hf.rest k k1 k3 k4
theorem SWc.below {B ab b q : Nat} {A : Option Addr} {R : Option Nat} {w w' : World} {l : List UInt8} (h : SWc X B ab b q A R w l) (hb : Below w.heap.size w w') : SWc X B ab b q A R w' l := by
  obtain ⟨cap, h1⟩ := h.buf
  exact h.keep ⟨cap, h1.below hb⟩ (.inl rfl) fun k hk _ _ => hb.block k hk
theorem SW.below {B ab b q : Nat} {w w' : World} {l : List UInt8} (h : SW X B ab b q w l) (hb : Below w.heap.size w w') : SW X B ab b q w' l := by
  obtain ⟨A, R, h⟩ := h
  exact ⟨A, R, h.below hb⟩
theorem SW.lt {B ab b q : Nat} {w : World} {l : List UInt8} (h : SW X B ab b q w l) : b < w.heap.size ∧ ab < w.heap.size ∧ B ≤ w.heap.size ∧ B ≤ b ∧ B ≤ ab := by
  obtain ⟨A, R, h⟩ := h
  have h1 := h.lt
  have h2 := h.hb
  have h3 := h.hab
  omega
theorem On.it {B ab b q : Nat} {w w' : World} {l : List UInt8} (h : On X B ab b q w w') (hs : SW X B ab b q w l) {k : Nat} {s : ByteArray} {pos : Nat} (hk : w.heap[k]? = some (.stringIter s pos)) : w'.heap[k]? = some (.stringIter s pos) := by
  obtain ⟨A, R, hs⟩ := hs
  obtain ⟨cap, hb⟩ := hs.buf
  exact h.oth k _ hk (iter_ne hk hb.c0) (iter_ne hk hs.c0) (fun _ _ e => by cases e)
/-- Another cell of the buffer's block may be set. -/
theorem BA.set {w : World} {b q o : Nat} {A : Option Addr} {cap : Nat} {l : List UInt8} {u : Value} (h : BA w b q A cap l) (h0 : o ≠ q) (h1 : o ≠ q + 1) (h2 : o ≠ q + 2) : BA (w.setCell ⟨b, o, none⟩ u) b q A cap l := by
  obtain ⟨lr, c2⟩ := h.c2
  have hc : ∀ j, j ≠ o → (w.setCell ⟨b, o, none⟩ u).cell? ⟨b, j, none⟩ = w.cell? ⟨b, j, none⟩ := fun j hj => World.cell?_setCell_other _ _ _ _ (by intro e; injection e with _ e2; omega)
  exact ⟨(hc _ (by omega)).trans h.c0, (hc _ (by omega)).trans h.c1, ⟨lr, (hc _ (by omega)).trans c2⟩, fun j => (World.frozen?_setCell _ _ _ _).trans (h.f j), h.row.kept fun k _ hk => Below.heap_setCell _ _ _ _ (by exact hk)⟩
theorem SW.set {B ab b q o : Nat} {w : World} {l : List UInt8} {u : Value} (h : SW X B ab b q w l) (h0 : o ≠ q) (h1 : o ≠ q + 1) (h2 : o ≠ q + 2) : SW X B ab b q (w.setCell ⟨b, o, none⟩ u) l := by
  obtain ⟨A, R, h⟩ := h
  obtain ⟨cap, hb⟩ := h.buf
  exact ⟨A, R, h.keep ⟨cap, hb.set h0 h1 h2⟩ (.inl rfl) fun k _ hk _ => Below.heap_setCell _ _ _ _ (by exact hk)⟩
/-- A writer that has no row for a sign's bytes is given one. -/
theorem SWc.made {B ab b q : Nat} {A : Option Addr} {w : World} {l : List UInt8} {Z : Array Value} (h : SWc X B ab b q A none w l) (hZ : Z.size = 4) :
    SWc X B ab b q A (some w.heap.size) ((w.alloc (.cells Z 5)).setCell ⟨ab, 9, none⟩ (.slice (some ⟨w.heap.size, 0, none⟩) 4 4)) l ∧ On X B ab b q w ((w.alloc (.cells Z 5)).setCell ⟨ab, 9, none⟩ (.slice (some ⟨w.heap.size, 0, none⟩) 4 4)) := by
  have hz := h.lt
  have ba : Below w.heap.size w (w.alloc (.cells Z 5)) := (Below.refl _ _).alloc (Nat.le_refl _) _
  have h' := h.below ba
  obtain ⟨W, hW⟩ : ∃ W, W = w.alloc (.cells Z 5) := ⟨_, rfl⟩
  have hnew : W.heap[w.heap.size]? = some (.cells Z 5 (0, 0)) := by rw [hW]; exact heap_alloc_new w _
  rw [← hW] at h' ba ⊢
  have hoth : ∀ k, k ≠ ab → (W.setCell ⟨ab, 9, none⟩ (.slice (some ⟨w.heap.size, 0, none⟩) 4 4)).heap[k]? = W.heap[k]? := fun k hk => Below.heap_setCell _ _ _ _ (by exact hk)
  have hc : ∀ o, o ≠ 9 → (W.setCell ⟨ab, 9, none⟩ (.slice (some ⟨w.heap.size, 0, none⟩) 4 4)).cell? ⟨ab, o, none⟩ = W.cell? ⟨ab, o, none⟩ := fun o ho => World.cell?_setCell_other _ _ _ _ (by intro e; injection e with _ e2; omega)
  obtain ⟨lr, c7⟩ := h'.c7
  obtain ⟨cap, hba⟩ := h'.buf
  have hbb := hoth b (fun e => h.ne e.symm)
  refine ⟨⟨⟨cap, ?_⟩, h.hb, h.hab, h.ne, fun g hg => ?_, fun r hr => ?_, (hc 0 (by omega)).trans h'.c0, (hc 1 (by omega)).trans h'.c1, (hc 5 (by omega)).trans h'.c5, (hc 6 (by omega)).trans h'.c6, ⟨lr, (hc 7 (by omega)).trans c7⟩, (hc 8 (by omega)).trans h'.c8, World.cell?_setCell_same' _ _ _ (by rw [h'.c9]; rfl), fun j => (World.frozen?_setCell _ _ _ _).trans (h'.fz j), fun k hx => ?_⟩, ?_⟩
  · obtain ⟨lr2, c2⟩ := hba.c2
    have hcb : ∀ o, (W.setCell ⟨ab, 9, none⟩ (.slice (some ⟨w.heap.size, 0, none⟩) 4 4)).cell? ⟨b, o, none⟩ = W.cell? ⟨b, o, none⟩ := fun o => World.cell?_of_block (w := W) hbb
    refine ⟨(hcb _).trans hba.c0, (hcb _).trans hba.c1, ⟨lr2, (hcb _).trans c2⟩, fun j => (World.frozen?_setCell _ _ _ _).trans (hba.f j), ?_⟩
    rcases hba.row with h0 | ⟨g, cur, ha, hg, h1, h2, h3, h4, h5⟩
    · exact .inl h0
    · exact .inr ⟨g, cur, ha, (hoth g (h.rowA g ha).2.1).trans hg, h1, h2, h3, h4, h5⟩
  · have h1 := h.rowA g hg
    have h2 := h.ltA hg
    exact ⟨h1.1, h1.2.1, fun e => by injection e with e; omega⟩
  · injection hr with hr
    subst hr
    exact ⟨Nat.le_trans h.hb (Nat.le_of_lt hz.1), by omega, by omega, Z, (hoth _ (by omega)).trans hnew, hZ⟩
  · obtain ⟨k1, k2, k3, k4, k5⟩ := h'.av k hx
    exact ⟨by simpa [World.setCell] using k1, k2, k3, k4, fun e => by injection e with e; have := (h.av k hx).1; omega⟩
  · refine (On.of ba (Nat.le_trans h.hb (Nat.le_of_lt hz.1)) hz.1).trans ⟨(Below.refl _ _).setCell h.hab _, fun k o hk _ k2 _ => (hoth k k2).trans hk, fun o _ _ _ => World.cell?_of_block (w := W) hbb, fun j => World.frozen?_of_block (w := W) hbb, fun k hx _ => hoth k (h'.av k hx).2.1⟩
/-- A sign's byte is put into the row. -/
theorem SWc.rune {B ab b q r : Nat} {A : Option Addr} {w : World} {l : List UInt8} (h : SWc X B ab b q A (some r) w l) (u : Value) :
    SWc X B ab b q A (some r) (w.setCell ⟨r, 0, none⟩ u) l ∧ On X B ab b q w (w.setCell ⟨r, 0, none⟩ u) ∧ (w.setCell ⟨r, 0, none⟩ u).cell? ⟨r, 0, none⟩ = some u := by
  obtain ⟨h1, h2, h3, cur, h4, h5⟩ := h.rowR r rfl
  have hoth : ∀ k, k ≠ r → (w.setCell ⟨r, 0, none⟩ u).heap[k]? = w.heap[k]? := fun k hk => Below.heap_setCell _ _ _ _ (by exact hk)
  have hcb : ∀ o, (w.setCell ⟨r, 0, none⟩ u).cell? ⟨b, o, none⟩ = w.cell? ⟨b, o, none⟩ := fun o => World.cell?_of_block (w := w) (hoth b (by omega))
  have hca : ∀ o, (w.setCell ⟨r, 0, none⟩ u).cell? ⟨ab, o, none⟩ = w.cell? ⟨ab, o, none⟩ := fun o => World.cell?_of_block (w := w) (hoth ab (by omega))
  obtain ⟨lr, c7⟩ := h.c7
  obtain ⟨cap, hba⟩ := h.buf
  have hr0 : ∃ v, w.cell? ⟨r, 0, none⟩ = some v := by
    refine ⟨cur[0]'(by omega), ?_⟩
    rw [World.cell?, h4]
    show cur[0]? = _
    exact Array.getElem?_eq_getElem _
  refine ⟨⟨⟨cap, ?_⟩, h.hb, h.hab, h.ne, h.rowA, fun r' hr => ?_, (hca 0).trans h.c0, (hca 1).trans h.c1, (hca 5).trans h.c5, (hca 6).trans h.c6, ⟨lr, (hca 7).trans c7⟩, (hca 8).trans h.c8, (hca 9).trans h.c9, fun j => (World.frozen?_setCell _ _ _ _).trans (h.fz j), fun k hx => ?_⟩, ⟨(Below.refl _ _).setCell h1 _, fun k o hk _ _ k3 => (hoth k (fun e => by rw [e, h4] at hk; exact k3 _ _ (Option.some.inj hk).symm)).trans hk, fun o _ _ _ => hcb o, fun j => World.frozen?_of_block (w := w) (hoth b (by omega)), fun k hx _ => hoth k (fun e => (h.av k hx).2.2.2.2 (by rw [e]))⟩, ?_⟩
  · obtain ⟨lr2, c2⟩ := hba.c2
    refine ⟨(hcb _).trans hba.c0, (hcb _).trans hba.c1, ⟨lr2, (hcb _).trans c2⟩, fun j => (World.frozen?_setCell _ _ _ _).trans (hba.f j), ?_⟩
    rcases hba.row with h0 | ⟨g, cur', ha, hg, k1, k2, k3, k4, k5⟩
    · exact .inl h0
    · exact .inr ⟨g, cur', ha, (hoth g (fun e => (h.rowA g ha).2.2 (by rw [e]))).trans hg, k1, k2, k3, k4, k5⟩
  · injection hr with hr
    subst hr
    refine ⟨h1, h2, h3, cur.setIfInBounds 0 u, ?_, by simp [h5]⟩
    show (w.heap.modify r _)[r]? = _
    rw [Array.getElem?_modify, if_pos rfl, h4]
    rfl
  · obtain ⟨k1, k2, k3, k4, k5⟩ := h.av k hx
    exact ⟨by simpa [World.setCell] using k1, k2, k3, k4, k5⟩
  · exact World.cell?_setCell_same' _ _ _ (by obtain ⟨v, hv⟩ := hr0; rw [hv]; rfl)
end Go.Proofs.YtbibokkclejapaaDoor
