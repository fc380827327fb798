/- indent.Writer: what it holds between signs, and what a write leaves alone. -/
import Derived.Test.YtbibokkclejapaaDoorIndAw
namespace Go.Proofs.YtbibokkclejapaaDoor
open Go.RowKit
set_option linter.unusedVariables false
set_option linter.unusedSimpArgs false
variable {X : Nat → Prop}

/-- Bytes with others ahead of each line; the flag says that the line has begun. -/
def indP (p : List UInt8) : Bool → List UInt8 → List UInt8
  | _, [] => []
  | sk, c :: t => (if sk = true then [] else p) ++ c :: indP p (c != 10) t
theorem indP_snoc (p : List UInt8) (c : UInt8) : ∀ (l : List UInt8) (sk : Bool), indP p sk (l ++ [c]) = indP p sk l ++ ((if endS sk l = true then [] else p) ++ [c])
  | [], sk => by cases sk <;> simp [indP, endS]
  | d :: t, sk => by
    have := indP_snoc p c t (d != 10)
    simp only [List.cons_append, indP, this, List.append_assoc]
    rfl
theorem indP_length (p : List UInt8) : ∀ (l : List UInt8) (sk : Bool), (indP p sk l).length ≤ (p.length + 1) * l.length
  | [], sk => by simp [indP]
  | c :: t, sk => by
    have h := indP_length p t (c != 10)
    rw [indP, List.length_append, List.length_cons, List.length_cons, Nat.mul_succ]
    have : (if sk = true then [] else p).length ≤ p.length := by split <;> simp
    omega
theorem indP_append (p : List UInt8) (y : List UInt8) : ∀ (x : List UInt8) (sk : Bool), indP p sk (x ++ y) = indP p sk x ++ indP p (endS sk x) y
  | [], sk => by simp [indP, endS]
  | d :: t, sk => by
    have := indP_append p y t (d != 10)
    simp only [List.cons_append, indP, this, List.append_assoc]
    rfl
theorem indP_take (p bs : List UInt8) (sk : Bool) (k : Nat) (hk : k < bs.length) : (indP p sk (bs.take k)).length + 1 ≤ (indP p sk bs).length := by
  have h := indP_append p (bs.drop k) (bs.take k) sk
  rw [List.take_append_drop] at h
  rw [h, List.length_append, List.drop_eq_getElem_cons hk, indP, List.length_append, List.length_cons]
  omega
theorem ind_eq (n : Nat) : ∀ (l : List UInt8) (sk : Bool), ind n sk l = indP (List.replicate n 32) sk l
  | [], sk => rfl
  | c :: t, sk => by rw [ind, indP, ind_eq n t]

/-- An indent.Writer at iw with its writer of sequences at ab, which hands on to the buffer at ⟨b, q⟩: a part of the writer's own block, or another one. -/
structure IW (X : Nat → Prop) (B iw ab b q : Nat) (n : Nat) (fn : Value) (w : World) (l : List UInt8) (sk : Bool) : Prop where
  sw : SW X B ab b q w l
  hB : B ≤ iw
  ne : iw ≠ ab
  oth : (iw = b ∧ q = 3) ∨ (iw ≠ b ∧ ∃ c t fz, w.heap[iw]? = some (.cells c t fz) ∧ t ≠ 5)
  c0 : w.cell? ⟨iw, 0, none⟩ = some (.int .u64 (n : Nat))
  c1 : w.cell? ⟨iw, 1, none⟩ = some fn
  c2 : w.cell? ⟨iw, 2, none⟩ = some (.pointer (some ⟨ab, 0, none⟩))
  c6 : w.cell? ⟨iw, 6, none⟩ = some (.bool sk)
  c7 : w.cell? ⟨iw, 7, none⟩ = some (.bool false)
  f : ∀ j, w.frozen? ⟨iw, j, none⟩ = false
  nx : ∀ k, X k → k ≠ iw
/-- What such a writer leaves alone. -/
structure IOn (X : Nat → Prop) (B iw ab b : Nat) (w w' : World) : Prop where
  below : Below B w w'
  oth : ∀ (k : Nat) (o : Obj), w.heap[k]? = some o → k ≠ iw → k ≠ b → k ≠ ab → (∀ c fz, o ≠ .cells c 5 fz) → w'.heap[k]? = some o
  av : ∀ k, X k → k < w.heap.size → w'.heap[k]? = w.heap[k]?
theorem IOn.refl (B iw ab b : Nat) (w : World) : IOn X B iw ab b w w := ⟨Below.refl _ _, fun _ _ h _ _ _ _ => h, fun _ _ _ => rfl⟩
theorem IOn.trans {B iw ab b : Nat} {w1 w2 w3 : World} (h : IOn X B iw ab b w1 w2) (k : IOn X B iw ab b w2 w3) : IOn X B iw ab b w1 w3 :=
  ⟨h.below.trans k.below, fun i o hi h0 h1 h2 h3 => k.oth i o (h.oth i o hi h0 h1 h2 h3) h0 h1 h2 h3, fun i hx hi => (k.av i hx (Nat.lt_of_lt_of_le hi h.below.size)).trans (h.av i hx hi)⟩
theorem On.iOn {B iw ab b q : Nat} {w w' : World} (h : On X B ab b q w w') : IOn X B iw ab b w w' := ⟨h.below, fun k o hk _ h1 h2 h3 => h.oth k o hk h1 h2 h3, h.av⟩
theorem IOn.of {B iw ab b : Nat} {w w' : World} (hb : Below w.heap.size w w') (hB : B ≤ w.heap.size) : IOn X B iw ab b w w' :=
  ⟨hb.mono hB, fun k o hk _ _ _ _ => (hb.block k (Array.getElem?_eq_some_iff.1 hk).1).trans hk, fun k _ hk => hb.block k hk⟩
theorem IOn.iterAt {B iw ab b : Nat} {w0 w : World} (h : IOn X B iw ab b w0 w) {it : Nat} (hB : B ≤ it) (h0 : w0.heap.size ≤ it) (s : ByteArray) (p : Nat) : IOn X B iw ab b w0 (w.iterAt it s p) :=
  ⟨Go.Lib.below_iterAt h.below hB s p, fun k o hk h1 h2 h3 h4 => (Go.Lib.iterAt_other w it k s p (by have := (Array.getElem?_eq_some_iff.1 hk).1; omega)).trans (h.oth k o hk h1 h2 h3 h4), fun k hx hk => (Go.Lib.iterAt_other w it k s p (by omega)).trans (h.av k hx hk)⟩
theorem IW.on {B iw ab b q n : Nat} {fn : Value} {w w' : World} {l l' : List UInt8} {sk : Bool} (h : IW X B iw ab b q n fn w l sk) (hs : SW X B ab b q w' l') (ho : On X B ab b q w w') : IW X B iw ab b q n fn w' l' sk := by
  rcases h.oth with ⟨rfl, rfl⟩ | ⟨hne, c, t, fz, hc, ht⟩
  · exact ⟨hs, h.hB, h.ne, .inl ⟨rfl, rfl⟩, (ho.cells 0 (by omega) (by omega) (by omega)).trans h.c0, (ho.cells 1 (by omega) (by omega) (by omega)).trans h.c1, (ho.cells 2 (by omega) (by omega) (by omega)).trans h.c2, (ho.cells 6 (by omega) (by omega) (by omega)).trans h.c6, (ho.cells 7 (by omega) (by omega) (by omega)).trans h.c7, fun j => (ho.fz j).trans (h.f j), h.nx⟩
  · have hk := ho.oth iw _ hc hne h.ne (fun c' fz' e => by cases e; exact ht rfl)
    have hkk : w'.heap[iw]? = w.heap[iw]? := hk.trans hc.symm
    have hcell : ∀ o, w'.cell? ⟨iw, o, none⟩ = w.cell? ⟨iw, o, none⟩ := fun o => World.cell?_of_block (w := w) hkk
    exact ⟨hs, h.hB, h.ne, .inr ⟨hne, c, t, fz, hk, ht⟩, (hcell 0).trans h.c0, (hcell 1).trans h.c1, (hcell 2).trans h.c2, (hcell 6).trans h.c6, (hcell 7).trans h.c7, fun j => (World.frozen?_of_block (w := w) hkk).trans (h.f j), h.nx⟩
theorem IW.lt {B iw ab b q n : Nat} {fn : Value} {w : World} {l : List UInt8} {sk : Bool} (h : IW X B iw ab b q n fn w l sk) : iw < w.heap.size ∧ B ≤ w.heap.size := ⟨lt_of_cell h.c0, h.sw.lt.2.2.1⟩
theorem IW.below {B iw ab b q n : Nat} {fn : Value} {w w' : World} {l : List UInt8} {sk : Bool} (h : IW X B iw ab b q n fn w l sk) (hb : Below w.heap.size w w') : IW X B iw ab b q n fn w' l sk :=
  h.on (h.sw.below hb) (On.of hb h.lt.2 h.sw.lt.1)
theorem IW.iterAt {B iw ab b q n : Nat} {fn : Value} {w : World} {l : List UInt8} {sk : Bool} (h : IW X B iw ab b q n fn w l sk) {it : Nat} {s : ByteArray} {p : Nat} (hi : w.heap[it]? = some (.stringIter s p)) (p' : Nat) : IW X B iw ab b q n fn (w.iterAt it s p') l sk := by
  have hne : iw ≠ it := fun e => iter_ne hi h.c0 e.symm
  have hkk : (w.iterAt it s p').heap[iw]? = w.heap[iw]? := Go.Lib.iterAt_other w it iw s p' hne
  have hcell : ∀ o, (w.iterAt it s p').cell? ⟨iw, o, none⟩ = w.cell? ⟨iw, o, none⟩ := fun o => World.cell?_of_block (w := w) hkk
  exact ⟨h.sw.iterAt hi p', h.hB, h.ne, h.oth.imp id fun ⟨h1, c, t, fz, h2, h3⟩ => ⟨h1, c, t, fz, hkk.trans h2, h3⟩, (hcell 0).trans h.c0, (hcell 1).trans h.c1, (hcell 2).trans h.c2, (hcell 6).trans h.c6, (hcell 7).trans h.c7, fun j => (World.frozen?_of_block (w := w) hkk).trans (h.f j), h.nx⟩
theorem IW.it {B iw ab b q n : Nat} {fn : Value} {w w' : World} {l : List UInt8} {sk : Bool} (h : IW X B iw ab b q n fn w l sk) (ho : IOn X B iw ab b w w') {k : Nat} {s : ByteArray} {pos : Nat} (hk : w.heap[k]? = some (.stringIter s pos)) : w'.heap[k]? = some (.stringIter s pos) := by
  obtain ⟨A, R, hs⟩ := h.sw
  obtain ⟨cap, hb⟩ := hs.buf
  exact ho.oth k _ hk (iter_ne hk h.c0) (iter_ne hk hb.c0) (iter_ne hk hs.c0) (fun _ _ e => by cases e)
/-- The flag is set. -/
theorem IW.set {B iw ab b q n : Nat} {fn : Value} {w : World} {l : List UInt8} {sk : Bool} (h : IW X B iw ab b q n fn w l sk) (sk' : Bool) : IW X B iw ab b q n fn (w.setCell ⟨iw, 6, none⟩ (.bool sk')) l sk' ∧ IOn X B iw ab b w (w.setCell ⟨iw, 6, none⟩ (.bool sk')) := by
  have hcell : ∀ o, o ≠ 6 → (w.setCell ⟨iw, 6, none⟩ (.bool sk')).cell? ⟨iw, o, none⟩ = w.cell? ⟨iw, o, none⟩ := fun o ho => World.cell?_setCell_other _ _ _ _ (by intro e; injection e with _ e2; omega)
  refine ⟨⟨?_, h.hB, h.ne, ?_, (hcell 0 (by omega)).trans h.c0, (hcell 1 (by omega)).trans h.c1, (hcell 2 (by omega)).trans h.c2, World.cell?_setCell_same' _ _ _ (by rw [h.c6]; rfl), (hcell 7 (by omega)).trans h.c7, fun j => (World.frozen?_setCell _ _ _ _).trans (h.f j), h.nx⟩, ⟨(Below.refl _ _).setCell h.hB _, fun k o hk h1 _ _ _ => (Below.heap_setCell _ _ _ _ (by exact h1)).trans hk, fun k hx _ => Below.heap_setCell _ _ _ _ (by exact h.nx k hx)⟩⟩
  · rcases h.oth with ⟨rfl, rfl⟩ | ⟨hne, c, t, fz, hc, ht⟩
    · exact h.sw.set (by omega) (by omega) (by omega)
    · exact h.sw.setOther hne h.ne fun c' fz' e => by
        have := hc.symm.trans e
        cases this
        exact ht rfl
  · rcases h.oth with h1 | ⟨hne, c, t, fz, hc, ht⟩
    · exact .inl h1
    · refine .inr ⟨hne, c.setIfInBounds 6 (.bool sk'), t, fz, ?_, ht⟩
      show (w.heap.modify iw _)[iw]? = _
      rw [Array.getElem?_modify, if_pos rfl, hc]
      rfl
end Go.Proofs.YtbibokkclejapaaDoor
