/- indent.Writer over a padding.Writer. (Printed by gen/mkqi.py.) -/
import Derived.Test.YtbibokkclejapaaDoorIndQAw
namespace Go.Proofs.YtbibokkclejapaaDoor
open Go.RowKit
set_option linter.unusedVariables false
set_option linter.unusedSimpArgs false
variable {X : Nat → Prop}

/-- What is written has room. -/
def Fit (mm : Nat) (x : List UInt8) : Prop := (padP mm 0 x).length + mm ≤ 900000 ∧ x.length ≤ 800000
theorem Fit.pre {mm : Nat} {x y : List UInt8} (h : Fit mm (x ++ y)) : Fit mm x := by
  obtain ⟨h1, h2⟩ := h
  rw [padP_append, List.length_append] at h1
  rw [List.length_append] at h2
  exact ⟨by omega, by omega⟩
/-- An indent.Writer at iw with its writer of sequences at ab, which hands on to the padding.Writer at pw. -/
structure IQ (X : Nat → Prop) (B iw ab pw ab2 mm : Nat) (n : Nat) (w : World) (l : List UInt8) (sk : Bool) : Prop where
  sp : SP (fun k => X k ∨ k = iw) B ab pw ab2 mm w l
  hB : B ≤ iw
  oth : ∃ c t fz, w.heap[iw]? = some (.cells c t fz) ∧ t ≠ 5
  c0 : w.cell? ⟨iw, 0, none⟩ = some (.int .u64 (n : Nat))
  c1 : w.cell? ⟨iw, 1, none⟩ = some .nilFunc
  c2 : w.cell? ⟨iw, 2, none⟩ = some (.pointer (some ⟨ab, 0, none⟩))
  c6 : w.cell? ⟨iw, 6, none⟩ = some (.bool sk)
  c7 : w.cell? ⟨iw, 7, none⟩ = some (.bool false)
  f : ∀ j, w.frozen? ⟨iw, j, none⟩ = false
  nx : ∀ k, X k → k ≠ iw
/-- What such a writer leaves alone. -/
structure QOn (X : Nat → Prop) (B iw ab pw ab2 : Nat) (w w' : World) : Prop where
  below : Below B w w'
  oth : ∀ (k : Nat) (o : Obj), w.heap[k]? = some o → k ≠ iw → k ≠ pw → k ≠ ab2 → k ≠ ab → (∀ c fz, o ≠ .cells c 5 fz) → w'.heap[k]? = some o
  av : ∀ k, X k → k < w.heap.size → w'.heap[k]? = w.heap[k]?
theorem QOn.trans {B iw ab pw ab2 : Nat} {w1 w2 w3 : World} (h : QOn X B iw ab pw ab2 w1 w2) (k : QOn X B iw ab pw ab2 w2 w3) : QOn X B iw ab pw ab2 w1 w3 :=
  ⟨h.below.trans k.below, fun i o hi h0 h1 h2 h3 h4 => k.oth i o (h.oth i o hi h0 h1 h2 h3 h4) h0 h1 h2 h3 h4, fun i hx hi => (k.av i hx (Nat.lt_of_lt_of_le hi h.below.size)).trans (h.av i hx hi)⟩
theorem SOn.qOn {B iw ab pw ab2 : Nat} {w w' : World} (h : SOn (fun k => X k ∨ k = iw) B ab pw ab2 w w') : QOn X B iw ab pw ab2 w w' := ⟨h.below, fun k o hk _ h1 h2 h3 h4 => h.oth k o hk h1 h2 h3 h4, fun k hx => h.av k (.inl hx)⟩
theorem QOn.of {B iw ab pw ab2 : Nat} {w w' : World} (hb : Below w.heap.size w w') (hB : B ≤ w.heap.size) : QOn X B iw ab pw ab2 w w' :=
  ⟨hb.mono hB, fun k o hk _ _ _ _ _ => (hb.block k (Array.getElem?_eq_some_iff.1 hk).1).trans hk, fun k _ hk => hb.block k hk⟩
theorem QOn.iterAt {B iw ab pw ab2 : Nat} {w0 w : World} (h : QOn X B iw ab pw ab2 w0 w) {it : Nat} (hB : B ≤ it) (h0 : w0.heap.size ≤ it) (s : ByteArray) (p : Nat) : QOn X B iw ab pw ab2 w0 (w.iterAt it s p) :=
  ⟨Go.Lib.below_iterAt h.below hB s p, fun k o hk h1 h2 h3 h4 h5 => (Go.Lib.iterAt_other w it k s p (by have := (Array.getElem?_eq_some_iff.1 hk).1; omega)).trans (h.oth k o hk h1 h2 h3 h4 h5), fun k hx hk => (Go.Lib.iterAt_other w it k s p (by omega)).trans (h.av k hx hk)⟩
theorem IQ.lt {B iw ab pw ab2 mm n : Nat} {w : World} {l : List UInt8} {sk : Bool} (h : IQ X B iw ab pw ab2 mm n w l sk) : iw < w.heap.size ∧ B ≤ w.heap.size := ⟨lt_of_cell h.c0, h.sp.lt.2⟩
theorem IQ.on {B iw ab pw ab2 mm n : Nat} {w w' : World} {l l' : List UInt8} {sk : Bool} (h : IQ X B iw ab pw ab2 mm n w l sk) (hs : SP (fun k => X k ∨ k = iw) B ab pw ab2 mm w' l') (ho : SOn (fun k => X k ∨ k = iw) B ab pw ab2 w w') : IQ X B iw ab pw ab2 mm n w' l' sk := by
  have hkk := ho.av iw (.inr rfl) h.lt.1
  have hcell : ∀ o, w'.cell? ⟨iw, o, none⟩ = w.cell? ⟨iw, o, none⟩ := fun o => World.cell?_of_block (w := w) hkk
  obtain ⟨c, t, fz, hc, ht⟩ := h.oth
  exact ⟨hs, h.hB, ⟨c, t, fz, hkk.trans hc, ht⟩, (hcell 0).trans h.c0, (hcell 1).trans h.c1, (hcell 2).trans h.c2, (hcell 6).trans h.c6, (hcell 7).trans h.c7, fun j => (World.frozen?_of_block (w := w) hkk).trans (h.f j), h.nx⟩
theorem IQ.below {B iw ab pw ab2 mm n : Nat} {w w' : World} {l : List UInt8} {sk : Bool} (h : IQ X B iw ab pw ab2 mm n w l sk) (hb : Below w.heap.size w w') : IQ X B iw ab pw ab2 mm n w' l sk :=
  h.on (h.sp.below hb) (SOn.of hb h.lt.2)
theorem IQ.iterAt {B iw ab pw ab2 mm n : Nat} {w : World} {l : List UInt8} {sk : Bool} (h : IQ X B iw ab pw ab2 mm n w l sk) {it : Nat} {s : ByteArray} {p : Nat} (hi : w.heap[it]? = some (.stringIter s p)) (p' : Nat) : IQ X B iw ab pw ab2 mm n (w.iterAt it s p') l sk := by
  have hne : iw ≠ it := fun e => iter_ne hi h.c0 e.symm
  have hkk : (w.iterAt it s p').heap[iw]? = w.heap[iw]? := Go.Lib.iterAt_other w it iw s p' hne
  have hcell : ∀ o, (w.iterAt it s p').cell? ⟨iw, o, none⟩ = w.cell? ⟨iw, o, none⟩ := fun o => World.cell?_of_block (w := w) hkk
  obtain ⟨c, t, fz, hc, ht⟩ := h.oth
  exact ⟨h.sp.iterAt hi p', h.hB, ⟨c, t, fz, hkk.trans hc, ht⟩, (hcell 0).trans h.c0, (hcell 1).trans h.c1, (hcell 2).trans h.c2, (hcell 6).trans h.c6, (hcell 7).trans h.c7, fun j => (World.frozen?_of_block (w := w) hkk).trans (h.f j), h.nx⟩
theorem IQ.it {B iw ab pw ab2 mm n : Nat} {w w' : World} {l : List UInt8} {sk : Bool} (h : IQ X B iw ab pw ab2 mm n w l sk) (ho : QOn X B iw ab pw ab2 w w') {k : Nat} {s : ByteArray} {pos : Nat} (hk : w.heap[k]? = some (.stringIter s pos)) : w'.heap[k]? = some (.stringIter s pos) := by
  obtain ⟨R, hs⟩ := h.sp
  obtain ⟨A2, R2, h2⟩ := hs.fwd.sw
  exact ho.oth k _ hk (iter_ne hk h.c0) (iter_ne hk hs.fwd.c0) (iter_ne hk h2.c0) (iter_ne hk hs.c0) (fun _ _ e => by cases e)
/-- The flag is set. -/
theorem IQ.set {B iw ab pw ab2 mm n : Nat} {w : World} {l : List UInt8} {sk : Bool} (h : IQ X B iw ab pw ab2 mm n w l sk) (sk' : Bool) : IQ X B iw ab pw ab2 mm n (w.setCell ⟨iw, 6, none⟩ (.bool sk')) l sk' ∧ QOn X B iw ab pw ab2 w (w.setCell ⟨iw, 6, none⟩ (.bool sk')) := by
  have hcell : ∀ o, o ≠ 6 → (w.setCell ⟨iw, 6, none⟩ (.bool sk')).cell? ⟨iw, o, none⟩ = w.cell? ⟨iw, o, none⟩ := fun o ho => World.cell?_setCell_other _ _ _ _ (by intro e; injection e with _ e2; omega)
  obtain ⟨c, t, fz, hc, ht⟩ := h.oth
  refine ⟨⟨h.sp.put _ _ (.inr rfl), h.hB, ⟨c.setIfInBounds 6 (.bool sk'), t, fz, ?_, ht⟩, (hcell 0 (by omega)).trans h.c0, (hcell 1 (by omega)).trans h.c1, (hcell 2 (by omega)).trans h.c2, World.cell?_setCell_same' _ _ _ (by rw [h.c6]; rfl), (hcell 7 (by omega)).trans h.c7, fun j => (World.frozen?_setCell _ _ _ _).trans (h.f j), h.nx⟩, ⟨(Below.refl _ _).setCell h.hB _, fun k o hk h1 _ _ _ _ => (Below.heap_setCell _ _ _ _ (by exact h1)).trans hk, fun k hx _ => Below.heap_setCell _ _ _ _ (by exact h.nx k hx)⟩⟩
  show (w.heap.modify iw _)[iw]? = _
  rw [Array.getElem?_modify, if_pos rfl, hc]
  rfl
end Go.Proofs.YtbibokkclejapaaDoor
