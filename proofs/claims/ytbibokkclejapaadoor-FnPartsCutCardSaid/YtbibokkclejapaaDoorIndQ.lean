/- ansi.Writer over a padding.Writer: what it holds as long as no sequence is seen. -/
import Derived.Test.YtbibokkclejapaaDoorIndPadW
namespace Go.Proofs.YtbibokkclejapaaDoor
open Go.RowKit
set_option linter.unusedVariables false
set_option linter.unusedSimpArgs false
variable {X : Nat → Prop}

theorem SWc.congr2 {B ab b q : Nat} {A : Option Addr} {R : Option Nat} {w w' : World} {l : List UInt8} (h : SWc X B ab b q A R w l) (hsz : w.heap.size ≤ w'.heap.size) (hb : w'.heap[b]? = w.heap[b]?) (ha : w'.heap[ab]? = w.heap[ab]?) (hA : ∀ k, A = some ⟨k, 0, none⟩ → w'.heap[k]? = w.heap[k]?) (hR : ∀ k, R = some k → w'.heap[k]? = w.heap[k]?) : SWc X B ab b q A R w' l := by
  obtain ⟨cap, hba⟩ := h.buf
  obtain ⟨lr, c7⟩ := h.c7
  have hc : ∀ o, w'.cell? ⟨ab, o, none⟩ = w.cell? ⟨ab, o, none⟩ := fun o => World.cell?_of_block (w := w) ha
  refine ⟨⟨cap, hba.same hb hA⟩, h.hb, h.hab, h.ne, h.rowA, fun r hr => ?_, (hc 0).trans h.c0, (hc 1).trans h.c1, (hc 5).trans h.c5, (hc 6).trans h.c6, ⟨lr, (hc 7).trans c7⟩, (hc 8).trans h.c8, (hc 9).trans h.c9, fun j => (World.frozen?_of_block (w := w) ha).trans (h.fz j), fun k hx => ?_⟩
  · obtain ⟨h1, h2, h3, cur, h4, h5⟩ := h.rowR r hr
    exact ⟨h1, h2, h3, cur, (hR r hr).trans h4, h5⟩
  · obtain ⟨k1, k2⟩ := h.av k hx
    exact ⟨Nat.lt_of_lt_of_le k1 hsz, k2⟩
/-- A block that the writer leaves alone may change. -/
theorem SW.put {B ab b q : Nat} {w : World} {l : List UInt8} (h : SW X B ab b q w l) (a : Addr) (v : Value) (ha : X a.block) : SW X B ab b q (w.setCell a v) l := by
  obtain ⟨A, R, h⟩ := h
  obtain ⟨_, k2, k3, k4, k5⟩ := h.av _ ha
  exact ⟨A, R, h.congr2 (by simp [World.setCell]) (Below.heap_setCell _ _ _ _ (Ne.symm k3)) (Below.heap_setCell _ _ _ _ (Ne.symm k2)) (fun k e => Below.heap_setCell _ _ _ _ (fun e2 => k4 (by rw [e, e2]))) (fun k e => Below.heap_setCell _ _ _ _ (fun e2 => k5 (by rw [e, e2])))⟩
/-- Fresh blocks may be left alone, too. -/
theorem SW.grow {Z : Nat → Prop} {B ab b q : Nat} {w w' : World} {l : List UInt8} (h : SW X B ab b q w l) (hb : Below w.heap.size w w') (hZ : ∀ k, Z k → X k ∨ (w.heap.size ≤ k ∧ k < w'.heap.size)) : SW Z B ab b q w' l := by
  have h' := h.below hb
  obtain ⟨A, R, h0⟩ := h
  have h1 := h0.below hb
  refine ⟨A, R, h1.buf, h1.hb, h1.hab, h1.ne, h1.rowA, h1.rowR, h1.c0, h1.c1, h1.c5, h1.c6, h1.c7, h1.c8, h1.c9, h1.fz, fun k hk => ?_⟩
  rcases hZ k hk with hx | ⟨g1, g2⟩
  · exact h1.av k hx
  · have hz := h0.lt
    refine ⟨g2, by omega, by omega, fun e => ?_, fun e => ?_⟩
    · have := (h0.ltA e).1; omega
    · have := h0.ltR e; omega
theorem PW.put {B pw ab b q n : Nat} {w : World} {l : List UInt8} {ln : Nat} (h : PW X B pw ab b q n w l ln) (a : Addr) (v : Value) (ha : X a.block) : PW X B pw ab b q n (w.setCell a v) l ln := by
  have hk : (w.setCell a v).heap[pw]? = w.heap[pw]? := Below.heap_setCell _ _ _ _ (Ne.symm (h.nx _ ha))
  have hcell : ∀ o, (w.setCell a v).cell? ⟨pw, o, none⟩ = w.cell? ⟨pw, o, none⟩ := fun o => World.cell?_of_block (w := w) hk
  exact ⟨h.sw.put a v ha, h.hB, h.ne, h.oth.imp id fun ⟨h1, ⟨c, t, fz, h2, h3⟩, h4⟩ => ⟨h1, ⟨c, t, fz, hk.trans h2, h3⟩, h4.same hk (fun g e => by cases e)⟩, (hcell 0).trans h.c0, (hcell 1).trans h.c1, (hcell 2).trans h.c2, (hcell 6).trans h.c6, (hcell 7).trans h.c7, (hcell 8).trans h.c8, (hcell 9).trans h.c9, (hcell 10).trans h.c10, fun j => (World.frozen?_of_block (w := w) hk).trans (h.f j), h.nx⟩
theorem PW.grow {Z : Nat → Prop} {B pw ab b q n : Nat} {w w' : World} {l : List UInt8} {ln : Nat} (h : PW X B pw ab b q n w l ln) (hb : Below w.heap.size w w') (hZ : ∀ k, Z k → X k ∨ (w.heap.size ≤ k ∧ k < w'.heap.size)) : PW Z B pw ab b q n w' l ln := by
  have h1 := h.below hb
  have hz := h.lt.1
  refine ⟨h.sw.grow hb hZ, h1.hB, h1.ne, h1.oth, h1.c0, h1.c1, h1.c2, h1.c6, h1.c7, h1.c8, h1.c9, h1.c10, h1.f, fun k hk => ?_⟩
  rcases hZ k hk with hx | ⟨g1, g2⟩
  · exact h1.nx k hx
  · omega
/-- Fewer blocks may be named. -/
theorem PW.less {Z : Nat → Prop} {B pw ab b q n : Nat} {w : World} {l : List UInt8} {ln : Nat} (h : PW X B pw ab b q n w l ln) (hZ : ∀ k, Z k → X k) : PW Z B pw ab b q n w l ln :=
  h.grow (Below.refl _ _) fun k hk => .inl (hZ k hk)
theorem PW.av {B pw ab b q n : Nat} {w : World} {l : List UInt8} {ln : Nat} (h : PW X B pw ab b q n w l ln) {k : Nat} (hx : X k) : k < w.heap.size ∧ k ≠ pw ∧ k ≠ ab ∧ k ≠ b := by
  obtain ⟨A, R, hs⟩ := h.sw
  obtain ⟨k1, k2, k3, _⟩ := hs.av k hx
  exact ⟨k1, h.nx k hx, k2, k3⟩

/-- What a padding.Writer must leave alone for a writer of sequences over it. -/
def Own2 (X : Nat → Prop) (ab : Nat) (R : Option Nat) : Nat → Prop := fun k => X k ∨ k = ab ∨ R = some k
/-- A writer of sequences at ⟨ab, 0⟩ that hands on to the padding.Writer at pw, with no sequence seen. -/
structure SPc (X : Nat → Prop) (B ab pw ab2 m : Nat) (R : Option Nat) (w : World) (l : List UInt8) : Prop where
  fwd : PW (Own2 X ab R) B pw ab2 pw 3 m w (padP m 0 l) (lnL 0 l)
  hab : B ≤ ab
  rowR : ∀ r, R = some r → B ≤ r ∧ r ≠ ab ∧ ∃ cur, w.heap[r]? = some (.cells cur 5 (0, 0)) ∧ cur.size = 4
  c0 : w.cell? ⟨ab, 0, none⟩ = some (.iface 59 (.pointer (some ⟨pw, 0, none⟩)))
  c1 : w.cell? ⟨ab, 1, none⟩ = some (.bool false)
  c5 : w.cell? ⟨ab, 5, none⟩ = some (.slice none 0 0)
  c6 : w.cell? ⟨ab, 6, none⟩ = some (.int .i64 0)
  c7 : ∃ lr, w.cell? ⟨ab, 7, none⟩ = some (.int .i8 lr)
  c8 : w.cell? ⟨ab, 8, none⟩ = some (.bool false)
  c9 : w.cell? ⟨ab, 9, none⟩ = some (runeB R)
  fz : ∀ j, w.frozen? ⟨ab, j, none⟩ = false
  nx : ∀ k, X k → k ≠ ab ∧ R ≠ some k
def SP (X : Nat → Prop) (B ab pw ab2 m : Nat) (w : World) (l : List UInt8) : Prop := ∃ R, SPc X B ab pw ab2 m R w l
/-- What a write through such a writer leaves alone. -/
structure SOn (X : Nat → Prop) (B ab pw ab2 : Nat) (w w' : World) : Prop where
  below : Below B w w'
  oth : ∀ (k : Nat) (o : Obj), w.heap[k]? = some o → k ≠ pw → k ≠ ab2 → k ≠ ab → (∀ c fz, o ≠ .cells c 5 fz) → w'.heap[k]? = some o
  av : ∀ k, X k → k < w.heap.size → w'.heap[k]? = w.heap[k]?
theorem SOn.refl (B ab pw ab2 : Nat) (w : World) : SOn X B ab pw ab2 w w := ⟨Below.refl _ _, fun _ _ h _ _ _ _ => h, fun _ _ _ => rfl⟩
theorem SOn.trans {B ab pw ab2 : Nat} {w1 w2 w3 : World} (h : SOn X B ab pw ab2 w1 w2) (k : SOn X B ab pw ab2 w2 w3) : SOn X B ab pw ab2 w1 w3 :=
  ⟨h.below.trans k.below, fun i o hi h0 h1 h2 h3 => k.oth i o (h.oth i o hi h0 h1 h2 h3) h0 h1 h2 h3, fun i hx hi => (k.av i hx (Nat.lt_of_lt_of_le hi h.below.size)).trans (h.av i hx hi)⟩
theorem SOn.of {B ab pw ab2 : Nat} {w w' : World} (hb : Below w.heap.size w w') (hB : B ≤ w.heap.size) : SOn X B ab pw ab2 w w' :=
  ⟨hb.mono hB, fun k o hk _ _ _ _ => (hb.block k (Array.getElem?_eq_some_iff.1 hk).1).trans hk, fun k _ hk => hb.block k hk⟩
theorem SOn.iterAt {B ab pw ab2 : Nat} {w0 w : World} (h : SOn X B ab pw ab2 w0 w) {it : Nat} (hB : B ≤ it) (h0 : w0.heap.size ≤ it) (s : ByteArray) (p : Nat) : SOn X B ab pw ab2 w0 (w.iterAt it s p) :=
  ⟨Go.Lib.below_iterAt h.below hB s p, fun k o hk h1 h2 h3 h4 => (Go.Lib.iterAt_other w it k s p (by have := (Array.getElem?_eq_some_iff.1 hk).1; omega)).trans (h.oth k o hk h1 h2 h3 h4), fun k hx hk => (Go.Lib.iterAt_other w it k s p (by omega)).trans (h.av k hx hk)⟩
theorem SPc.lt {B ab pw ab2 m : Nat} {R : Option Nat} {w : World} {l : List UInt8} (h : SPc X B ab pw ab2 m R w l) : ab < w.heap.size ∧ pw < w.heap.size ∧ B ≤ w.heap.size ∧ ab ≠ pw ∧ ab ≠ ab2 := by
  obtain ⟨k1, k2, k3, _⟩ := h.fwd.av (k := ab) (.inr (.inl rfl))
  exact ⟨k1, h.fwd.lt.1, h.fwd.lt.2, k2, k3⟩
theorem SPc.ltR {B ab pw ab2 m r : Nat} {w : World} {l : List UInt8} (h : SPc X B ab pw ab2 m (some r) w l) : r < w.heap.size ∧ r ≠ pw ∧ r ≠ ab2 := by
  obtain ⟨k1, k2, k3, _⟩ := h.fwd.av (k := r) (.inr (.inr rfl))
  exact ⟨k1, k2, k3⟩
/-- The writer stands where its own blocks do and the padding.Writer is what is told. -/
theorem SPc.keep {B ab pw ab2 m : Nat} {R : Option Nat} {w w' : World} {l l' : List UInt8} (h : SPc X B ab pw ab2 m R w l) (hf : PW (Own2 X ab R) B pw ab2 pw 3 m w' (padP m 0 l') (lnL 0 l')) (hk : ∀ k, Own2 X ab R k → w'.heap[k]? = w.heap[k]?) : SPc X B ab pw ab2 m R w' l' := by
  have ha := hk ab (.inr (.inl rfl))
  have hc : ∀ o, w'.cell? ⟨ab, o, none⟩ = w.cell? ⟨ab, o, none⟩ := fun o => World.cell?_of_block (w := w) ha
  obtain ⟨lr, c7⟩ := h.c7
  refine ⟨hf, h.hab, fun r hr => ?_, (hc 0).trans h.c0, (hc 1).trans h.c1, (hc 5).trans h.c5, (hc 6).trans h.c6, ⟨lr, (hc 7).trans c7⟩, (hc 8).trans h.c8, (hc 9).trans h.c9, fun j => (World.frozen?_of_block (w := w) ha).trans (h.fz j), h.nx⟩
  obtain ⟨h1, h2, cur, h3, h4⟩ := h.rowR r hr
  exact ⟨h1, h2, cur, (hk r (.inr (.inr hr))).trans h3, h4⟩
theorem SPc.iOn {B ab pw ab2 m : Nat} {R : Option Nat} {w w' : World} {l l' : List UInt8} (h : SPc X B ab pw ab2 m R w l) (hf : PW (Own2 X ab R) B pw ab2 pw 3 m w' (padP m 0 l') (lnL 0 l')) (ho : IOn (Own2 X ab R) B pw ab2 pw w w') : SPc X B ab pw ab2 m R w' l' ∧ SOn X B ab pw ab2 w w' :=
  ⟨h.keep hf fun k hk => ho.av k hk (h.fwd.av hk).1, ho.below, fun k o hk h1 h2 _ h4 => ho.oth k o hk h1 h1 h2 h4, fun k hx hk => ho.av k (.inl hx) hk⟩
theorem SPc.below {B ab pw ab2 m : Nat} {R : Option Nat} {w w' : World} {l : List UInt8} (h : SPc X B ab pw ab2 m R w l) (hb : Below w.heap.size w w') : SPc X B ab pw ab2 m R w' l :=
  h.keep (h.fwd.below hb) fun k hk => hb.block k (h.fwd.av hk).1
theorem SP.below {B ab pw ab2 m : Nat} {w w' : World} {l : List UInt8} (h : SP X B ab pw ab2 m w l) (hb : Below w.heap.size w w') : SP X B ab pw ab2 m w' l := by
  obtain ⟨R, h⟩ := h
  exact ⟨R, h.below hb⟩
theorem SP.lt {B ab pw ab2 m : Nat} {w : World} {l : List UInt8} (h : SP X B ab pw ab2 m w l) : ab < w.heap.size ∧ B ≤ w.heap.size := by
  obtain ⟨R, h⟩ := h
  exact ⟨h.lt.1, h.lt.2.2.1⟩
/-- A block that is left alone may change. -/
theorem SP.put {B ab pw ab2 m : Nat} {w : World} {l : List UInt8} (h : SP X B ab pw ab2 m w l) (a : Addr) (v : Value) (ha : X a.block) : SP X B ab pw ab2 m (w.setCell a v) l := by
  obtain ⟨R, h⟩ := h
  have hf := h.fwd.put a v (.inl ha)
  obtain ⟨n1, n2⟩ := h.nx _ ha
  have hoth : ∀ k, k ≠ a.block → (w.setCell a v).heap[k]? = w.heap[k]? := fun k hk => Below.heap_setCell _ _ _ _ hk
  have hab := hoth ab (Ne.symm n1)
  have hc : ∀ o, (w.setCell a v).cell? ⟨ab, o, none⟩ = w.cell? ⟨ab, o, none⟩ := fun o => World.cell?_of_block (w := w) hab
  obtain ⟨lr, c7⟩ := h.c7
  refine ⟨R, hf, h.hab, fun r hr => ?_, (hc 0).trans h.c0, (hc 1).trans h.c1, (hc 5).trans h.c5, (hc 6).trans h.c6, ⟨lr, (hc 7).trans c7⟩, (hc 8).trans h.c8, (hc 9).trans h.c9, fun j => (World.frozen?_of_block (w := w) hab).trans (h.fz j), h.nx⟩
  obtain ⟨h1, h2, cur, h3, h4⟩ := h.rowR r hr
  exact ⟨h1, h2, cur, (hoth r (fun e => n2 (by rw [hr, e]))).trans h3, h4⟩
/-- An iterator may move. -/
theorem SPc.same {B ab pw ab2 m : Nat} {R : Option Nat} {w : World} {l : List UInt8} (h : SPc X B ab pw ab2 m R w l) {it : Nat} {s : ByteArray} {p : Nat} (hi : w.heap[it]? = some (.stringIter s p)) (p' : Nat) : SPc X B ab pw ab2 m R (w.iterAt it s p') l := by
  have hne : ab ≠ it := fun e => iter_ne hi h.c0 e.symm
  have hkk : (w.iterAt it s p').heap[ab]? = w.heap[ab]? := Go.Lib.iterAt_other w it ab s p' hne
  have hc : ∀ o, (w.iterAt it s p').cell? ⟨ab, o, none⟩ = w.cell? ⟨ab, o, none⟩ := fun o => World.cell?_of_block (w := w) hkk
  obtain ⟨lr, c7⟩ := h.c7
  refine ⟨h.fwd.iterAt hi p', h.hab, fun r hr => ?_, (hc 0).trans h.c0, (hc 1).trans h.c1, (hc 5).trans h.c5, (hc 6).trans h.c6, ⟨lr, (hc 7).trans c7⟩, (hc 8).trans h.c8, (hc 9).trans h.c9, fun j => (World.frozen?_of_block (w := w) hkk).trans (h.fz j), h.nx⟩
  obtain ⟨h1, h2, cur, h3, h4⟩ := h.rowR r hr
  exact ⟨h1, h2, cur, (Go.Lib.iterAt_other w it r s p' (fun e => by rw [e, hi] at h3; cases h3)).trans h3, h4⟩
theorem SP.iterAt {B ab pw ab2 m : Nat} {w : World} {l : List UInt8} (h : SP X B ab pw ab2 m w l) {it : Nat} {s : ByteArray} {p : Nat} (hi : w.heap[it]? = some (.stringIter s p)) (p' : Nat) : SP X B ab pw ab2 m (w.iterAt it s p') l := by
  obtain ⟨R, h⟩ := h
  exact ⟨R, h.same hi p'⟩
theorem SOn.it {B ab pw ab2 m : Nat} {w w' : World} {l : List UInt8} (h : SOn X B ab pw ab2 w w') (hs : SP X B ab pw ab2 m w l) {k : Nat} {s : ByteArray} {pos : Nat} (hk : w.heap[k]? = some (.stringIter s pos)) : w'.heap[k]? = some (.stringIter s pos) := by
  obtain ⟨R, hs⟩ := hs
  obtain ⟨A2, R2, h2⟩ := hs.fwd.sw
  exact h.oth k _ hk (iter_ne hk hs.fwd.c0) (iter_ne hk h2.c0) (iter_ne hk hs.c0) (fun _ _ e => by cases e)
/-- A writer that has no row for a sign's bytes is given one. -/
theorem SPc.made {B ab pw ab2 m : Nat} {w : World} {l : List UInt8} {Z : Array Value} (h : SPc X B ab pw ab2 m none w l) (hZ : Z.size = 4) :
    SPc X B ab pw ab2 m (some w.heap.size) ((w.alloc (.cells Z 5)).setCell ⟨ab, 9, none⟩ (.slice (some ⟨w.heap.size, 0, none⟩) 4 4)) l ∧ SOn X B ab pw ab2 w ((w.alloc (.cells Z 5)).setCell ⟨ab, 9, none⟩ (.slice (some ⟨w.heap.size, 0, none⟩) 4 4)) := by
  have hz := h.lt
  have ba : Below w.heap.size w (w.alloc (.cells Z 5)) := (Below.refl _ _).alloc (Nat.le_refl _) _
  have h' := h.below ba
  have hf : PW (Own2 X ab (some w.heap.size)) B pw ab2 pw 3 m (w.alloc (.cells Z 5)) (padP m 0 l) (lnL 0 l) := h.fwd.grow ba fun k hk => by
    rcases hk with hk | hk | hk
    · exact .inl (.inl hk)
    · exact .inl (.inr (.inl hk))
    · injection hk with hk
      exact .inr ⟨by omega, by simp; omega⟩
  obtain ⟨W, hW⟩ : ∃ W, W = w.alloc (.cells Z 5) := ⟨_, rfl⟩
  have hnew : W.heap[w.heap.size]? = some (.cells Z 5 (0, 0)) := by rw [hW]; exact heap_alloc_new w _
  rw [← hW] at h' ba hf ⊢
  have hoth : ∀ k, k ≠ ab → (W.setCell ⟨ab, 9, none⟩ (.slice (some ⟨w.heap.size, 0, none⟩) 4 4)).heap[k]? = W.heap[k]? := fun k hk => Below.heap_setCell _ _ _ _ (by exact hk)
  have hc : ∀ o, o ≠ 9 → (W.setCell ⟨ab, 9, none⟩ (.slice (some ⟨w.heap.size, 0, none⟩) 4 4)).cell? ⟨ab, o, none⟩ = W.cell? ⟨ab, o, none⟩ := fun o ho => World.cell?_setCell_other _ _ _ _ (by intro e; injection e with _ e2; omega)
  obtain ⟨lr, c7⟩ := h'.c7
  refine ⟨⟨hf.put _ _ (.inr (.inl rfl)), h.hab, fun r hr => ?_, (hc 0 (by omega)).trans h'.c0, (hc 1 (by omega)).trans h'.c1, (hc 5 (by omega)).trans h'.c5, (hc 6 (by omega)).trans h'.c6, ⟨lr, (hc 7 (by omega)).trans c7⟩, (hc 8 (by omega)).trans h'.c8, World.cell?_setCell_same' _ _ _ (by rw [h'.c9]; rfl), fun j => (World.frozen?_setCell _ _ _ _).trans (h'.fz j), fun k hk => ⟨(h.nx k hk).1, fun e => ?_⟩⟩, ?_⟩
  · injection hr with hr
    subst hr
    exact ⟨hz.2.2.1, by omega, Z, (hoth _ (by omega)).trans hnew, hZ⟩
  · injection e with e
    have := (h.fwd.av (k := k) (.inl hk)).1
    omega
  · exact (SOn.of ba hz.2.2.1).trans ⟨(Below.refl _ _).setCell h.hab _, fun k o hk _ _ k3 _ => (hoth k k3).trans hk, fun k hx _ => hoth k (h.nx k hx).1⟩
/-- A sign's byte is put into the row. -/
theorem SPc.rune {B ab pw ab2 m r : Nat} {w : World} {l : List UInt8} (h : SPc X B ab pw ab2 m (some r) w l) (u : Value) :
    SPc X B ab pw ab2 m (some r) (w.setCell ⟨r, 0, none⟩ u) l ∧ SOn X B ab pw ab2 w (w.setCell ⟨r, 0, none⟩ u) ∧ (w.setCell ⟨r, 0, none⟩ u).cell? ⟨r, 0, none⟩ = some u := by
  obtain ⟨h1, h2, cur, h4, h5⟩ := h.rowR r rfl
  have hoth : ∀ k, k ≠ r → (w.setCell ⟨r, 0, none⟩ u).heap[k]? = w.heap[k]? := fun k hk => Below.heap_setCell _ _ _ _ (by exact hk)
  have hca : ∀ o, (w.setCell ⟨r, 0, none⟩ u).cell? ⟨ab, o, none⟩ = w.cell? ⟨ab, o, none⟩ := fun o => World.cell?_of_block (w := w) (hoth ab (by omega))
  obtain ⟨lr, c7⟩ := h.c7
  have hr0 : ∃ v, w.cell? ⟨r, 0, none⟩ = some v := by
    refine ⟨cur[0]'(by omega), ?_⟩
    rw [World.cell?, h4]
    show cur[0]? = _
    exact Array.getElem?_eq_getElem _
  refine ⟨⟨h.fwd.put _ _ (.inr (.inr rfl)), h.hab, fun r' hr => ?_, (hca 0).trans h.c0, (hca 1).trans h.c1, (hca 5).trans h.c5, (hca 6).trans h.c6, ⟨lr, (hca 7).trans c7⟩, (hca 8).trans h.c8, (hca 9).trans h.c9, fun j => (World.frozen?_setCell _ _ _ _).trans (h.fz j), h.nx⟩, ⟨(Below.refl _ _).setCell h1 _, fun k o hk _ _ _ k3 => (hoth k (fun e => by rw [e, h4] at hk; exact k3 _ _ (Option.some.inj hk).symm)).trans hk, fun k hx _ => hoth k (fun e => (h.nx k hx).2 (by rw [e]))⟩, ?_⟩
  · injection hr with hr
    subst hr
    refine ⟨h1, h2, cur.setIfInBounds 0 u, ?_, by simp [h5]⟩
    show (w.heap.modify r _)[r]? = _
    rw [Array.getElem?_modify, if_pos rfl, h4]
    rfl
  · exact World.cell?_setCell_same' _ _ _ (by obtain ⟨v, hv⟩ := hr0; rw [hv]; rfl)
theorem lnL_append (y : List UInt8) : ∀ (x : List UInt8) (ln : Nat), lnL ln (x ++ y) = lnL (lnL ln x) y
  | [], ln => rfl
  | d :: t, ln => by
    by_cases h : d = 10
    · simp only [List.cons_append, lnL, if_pos h, lnL_append y t 0]
    · simp only [List.cons_append, lnL, if_neg h, lnL_append y t (ln + 1)]
end Go.Proofs.YtbibokkclejapaaDoor
