/- Lines that are filled up: in plain words; padding.Writer in memory; ansi.RuneWidth. -/
import Derived.Test.YtbibokkclejapaaDoorIndDedS
import Derived.Test.YtbibokkclejapaaDoorIndBig
namespace Go.Proofs.YtbibokkclejapaaDoor
open Go.RowKit
set_option linter.unusedVariables false
set_option linter.unusedSimpArgs false
variable {X : Nat → Prop}

/-- Lines that are filled up with blanks, sign by sign; the number tells how long the line is already. -/
def padP (n : Nat) : Nat → List UInt8 → List UInt8
  | _, [] => []
  | ln, c :: t => if c = 10 then List.replicate (n - ln) 32 ++ 10 :: padP n 0 t else c :: padP n (ln + 1) t
def lnL : Nat → List UInt8 → Nat
  | ln, [] => ln
  | ln, c :: t => if c = 10 then lnL 0 t else lnL (ln + 1) t
/-- What is written behind the last line. -/
def padE (n : Nat) (l : List UInt8) : List UInt8 := if lnL 0 l = 0 then [] else List.replicate (n - lnL 0 l) 32
def padL (n : Nat) (l : List UInt8) : List UInt8 := padP n 0 l ++ padE n l
theorem padP_snoc (n : Nat) (c : UInt8) : ∀ (l : List UInt8) (ln : Nat), padP n ln (l ++ [c]) = padP n ln l ++ (if c = 10 then List.replicate (n - lnL ln l) 32 ++ [10] else [c])
  | [], ln => by
    by_cases h : c = 10 <;> simp [padP, lnL, h]
  | d :: t, ln => by
    by_cases h : d = 10
    · have := padP_snoc n c t 0
      simp only [List.cons_append, padP, lnL, if_pos h, this, List.append_assoc]
    · have := padP_snoc n c t (ln + 1)
      simp only [List.cons_append, padP, lnL, if_neg h, this]
theorem lnL_snoc (c : UInt8) : ∀ (l : List UInt8) (ln : Nat), lnL ln (l ++ [c]) = if c = 10 then 0 else lnL ln l + 1
  | [], ln => by
    by_cases h : c = 10 <;> simp [lnL, h]
  | d :: t, ln => by
    by_cases h : d = 10
    · simp only [List.cons_append, lnL, if_pos h, lnL_snoc c t 0]
    · simp only [List.cons_append, lnL, if_neg h, lnL_snoc c t (ln + 1)]
theorem lnL_le : ∀ (l : List UInt8) (ln : Nat), lnL ln l ≤ ln + l.length
  | [], ln => by simp [lnL]
  | c :: t, ln => by
    have h1 := lnL_le t 0
    have h2 := lnL_le t (ln + 1)
    rw [lnL, List.length_cons]
    split <;> omega
theorem padP_length (n : Nat) : ∀ (l : List UInt8) (ln : Nat), (padP n ln l).length ≤ (n + 1) * l.length
  | [], ln => by simp [padP]
  | c :: t, ln => by
    have h1 := padP_length n t 0
    have h2 := padP_length n t (ln + 1)
    rw [padP, List.length_cons, Nat.mul_succ]
    split
    · rw [List.length_append, List.length_replicate, List.length_cons]; omega
    · rw [List.length_cons]; omega
theorem padE_length (n : Nat) (l : List UInt8) : (padE n l).length ≤ n := by
  unfold padE
  split <;> simp
theorem padP_line (n : Nat) (t : List UInt8) : ∀ (x : List UInt8) (ln : Nat), (∀ c ∈ x, c ≠ 10) → padP n ln (x ++ 10 :: t) = x ++ (List.replicate (n - (ln + x.length)) 32 ++ 10 :: padP n 0 t) ∧ lnL ln (x ++ 10 :: t) = lnL 0 t
  | [], ln, _ => by simp [padP, lnL]
  | c :: x, ln, h => by
    have hc := h c (by simp)
    obtain ⟨h1, h2⟩ := padP_line n t x (ln + 1) fun d hd => h d (by simp [hd])
    rw [show ln + 1 + x.length = ln + (x.length + 1) by omega] at h1
    simp only [List.cons_append, padP, lnL, if_neg hc, h1, h2, List.length_cons]
    exact ⟨trivial, trivial⟩
theorem padP_last (n : Nat) : ∀ (x : List UInt8) (ln : Nat), (∀ c ∈ x, c ≠ 10) → padP n ln x = x ∧ lnL ln x = ln + x.length
  | [], ln, _ => by simp [padP, lnL]
  | c :: x, ln, h => by
    have hc := h c (by simp)
    obtain ⟨h1, h2⟩ := padP_last n x (ln + 1) fun d hd => h d (by simp [hd])
    simp only [padP, lnL, if_neg hc, h1, h2, List.length_cons]
    exact ⟨trivial, by omega⟩
def fillL (n : Nat) (x : List UInt8) : List UInt8 := x ++ List.replicate (n - x.length) 32
theorem padE_cons (n : Nat) (x t : List UInt8) (h : ∀ c ∈ x, c ≠ 10) : padE n (x ++ 10 :: t) = padE n t := by
  unfold padE
  rw [(padP_line n t x 0 h).2]
theorem tog_pad (n : Nat) : ∀ r : List (List UInt8), r ≠ [] → (∀ x ∈ r, ∀ c ∈ x, c ≠ 10) → togL (mapR (fillL n) r) = padL n (togL r)
  | [x], _, h => by
    obtain ⟨h1, h2⟩ := padP_last n x 0 (h x (by simp))
    show (if x = [] then x else fillL n x) = padP n 0 x ++ padE n x
    rw [h1]
    unfold padE fillL
    rw [h2, Nat.zero_add]
    by_cases e : x = []
    · simp [e]
    · rw [if_neg e, if_neg (by simp [e])]
  | x :: y :: r, _, h => by
    have hx := h x (by simp)
    rw [map_cons _ _ _ (.inl (by simp)), tog_cons _ _ (map_ne _ _ (by simp)), tog_pad n (y :: r) (by simp) fun z hz => h z (by simp [hz])]
    rw [tog_cons x (y :: r) (by simp)]
    unfold padL
    rw [padE_cons n x _ hx, (padP_line n _ x 0 hx).1, Nat.zero_add]
    simp [fillL]

/-- A padding.Writer at pw with its writer of sequences at ab, which hands on to the buffer at ⟨b, q⟩; nothing has been flushed. -/
structure PW (X : Nat → Prop) (B pw ab b q : Nat) (n : Nat) (w : World) (l : List UInt8) (ln : Nat) : Prop where
  sw : SW X B ab b q w l
  hB : B ≤ pw
  ne : pw ≠ ab
  oth : (pw = b ∧ q = 3) ∨ (pw ≠ b ∧ (∃ c t fz, w.heap[pw]? = some (.cells c t fz) ∧ t ≠ 5) ∧ BA w pw 3 none 0 [])
  c0 : w.cell? ⟨pw, 0, none⟩ = some (.int .u64 (n : Nat))
  c1 : w.cell? ⟨pw, 1, none⟩ = some .nilFunc
  c2 : w.cell? ⟨pw, 2, none⟩ = some (.pointer (some ⟨ab, 0, none⟩))
  c6 : w.cell? ⟨pw, 6, none⟩ = some (.slice none 0 0)
  c7 : w.cell? ⟨pw, 7, none⟩ = some (.int .i64 0)
  c8 : w.cell? ⟨pw, 8, none⟩ = some (.int .i8 0)
  c9 : w.cell? ⟨pw, 9, none⟩ = some (.int .i64 (ln : Nat))
  c10 : w.cell? ⟨pw, 10, none⟩ = some (.bool false)
  f : ∀ j, w.frozen? ⟨pw, j, none⟩ = false
  nx : ∀ k, X k → k ≠ pw
theorem PW.on {B pw ab b q n : Nat} {w w' : World} {l l' : List UInt8} {ln : Nat} (h : PW X B pw ab b q n w l ln) (hs : SW X B ab b q w' l') (ho : On X B ab b q w w') : PW X B pw ab b q n w' l' ln := by
  rcases h.oth with ⟨rfl, rfl⟩ | ⟨hne, ⟨c, t, fz, hc, ht⟩, hba⟩
  · exact ⟨hs, h.hB, h.ne, .inl ⟨rfl, rfl⟩, (ho.cells 0 (by omega) (by omega) (by omega)).trans h.c0, (ho.cells 1 (by omega) (by omega) (by omega)).trans h.c1, (ho.cells 2 (by omega) (by omega) (by omega)).trans h.c2, (ho.cells 6 (by omega) (by omega) (by omega)).trans h.c6, (ho.cells 7 (by omega) (by omega) (by omega)).trans h.c7, (ho.cells 8 (by omega) (by omega) (by omega)).trans h.c8, (ho.cells 9 (by omega) (by omega) (by omega)).trans h.c9, (ho.cells 10 (by omega) (by omega) (by omega)).trans h.c10, fun j => (ho.fz j).trans (h.f j), h.nx⟩
  · have hk := ho.oth pw _ hc hne h.ne (fun c' fz' e => by cases e; exact ht rfl)
    have hkk : w'.heap[pw]? = w.heap[pw]? := hk.trans hc.symm
    have hcell : ∀ o, w'.cell? ⟨pw, o, none⟩ = w.cell? ⟨pw, o, none⟩ := fun o => World.cell?_of_block (w := w) hkk
    exact ⟨hs, h.hB, h.ne, .inr ⟨hne, ⟨c, t, fz, hk, ht⟩, hba.same hkk (fun g e => by cases e)⟩, (hcell 0).trans h.c0, (hcell 1).trans h.c1, (hcell 2).trans h.c2, (hcell 6).trans h.c6, (hcell 7).trans h.c7, (hcell 8).trans h.c8, (hcell 9).trans h.c9, (hcell 10).trans h.c10, fun j => (World.frozen?_of_block (w := w) hkk).trans (h.f j), h.nx⟩
theorem PW.lt {B pw ab b q n : Nat} {w : World} {l : List UInt8} {ln : Nat} (h : PW X B pw ab b q n w l ln) : pw < w.heap.size ∧ B ≤ w.heap.size := ⟨lt_of_cell h.c0, h.sw.lt.2.2.1⟩
theorem PW.below {B pw ab b q n : Nat} {w w' : World} {l : List UInt8} {ln : Nat} (h : PW X B pw ab b q n w l ln) (hb : Below w.heap.size w w') : PW X B pw ab b q n w' l ln :=
  h.on (h.sw.below hb) (On.of hb h.lt.2 h.sw.lt.1)
theorem PW.iterAt {B pw ab b q n : Nat} {w : World} {l : List UInt8} {ln : Nat} (h : PW X B pw ab b q n w l ln) {it : Nat} {s : ByteArray} {p : Nat} (hi : w.heap[it]? = some (.stringIter s p)) (p' : Nat) : PW X B pw ab b q n (w.iterAt it s p') l ln := by
  have hne : pw ≠ it := fun e => iter_ne hi h.c0 e.symm
  have hkk : (w.iterAt it s p').heap[pw]? = w.heap[pw]? := Go.Lib.iterAt_other w it pw s p' hne
  have hcell : ∀ o, (w.iterAt it s p').cell? ⟨pw, o, none⟩ = w.cell? ⟨pw, o, none⟩ := fun o => World.cell?_of_block (w := w) hkk
  exact ⟨h.sw.iterAt hi p', h.hB, h.ne, h.oth.imp id fun ⟨h1, ⟨c, t, fz, h2, h3⟩, h4⟩ => ⟨h1, ⟨c, t, fz, hkk.trans h2, h3⟩, h4.same hkk (fun g e => by cases e)⟩, (hcell 0).trans h.c0, (hcell 1).trans h.c1, (hcell 2).trans h.c2, (hcell 6).trans h.c6, (hcell 7).trans h.c7, (hcell 8).trans h.c8, (hcell 9).trans h.c9, (hcell 10).trans h.c10, fun j => (World.frozen?_of_block (w := w) hkk).trans (h.f j), h.nx⟩
theorem PW.it {B pw ab b q n : Nat} {w w' : World} {l : List UInt8} {ln : Nat} (h : PW X B pw ab b q n w l ln) (ho : IOn X B pw ab b w w') {k : Nat} {s : ByteArray} {pos : Nat} (hk : w.heap[k]? = some (.stringIter s pos)) : w'.heap[k]? = some (.stringIter s pos) := by
  obtain ⟨A, R, hs⟩ := h.sw
  obtain ⟨cap, hb⟩ := hs.buf
  exact ho.oth k _ hk (iter_ne hk h.c0) (iter_ne hk hb.c0) (iter_ne hk hs.c0) (fun _ _ e => by cases e)
/-- The line's length is set. -/
theorem PW.set {B pw ab b q n : Nat} {w : World} {l : List UInt8} {ln : Nat} (h : PW X B pw ab b q n w l ln) (ln' : Nat) : PW X B pw ab b q n (w.setCell ⟨pw, 9, none⟩ (.int .i64 (ln' : Nat))) l ln' ∧ IOn X B pw ab b w (w.setCell ⟨pw, 9, none⟩ (.int .i64 (ln' : Nat))) := by
  have hcell : ∀ o, o ≠ 9 → (w.setCell ⟨pw, 9, none⟩ (.int .i64 (ln' : Nat))).cell? ⟨pw, o, none⟩ = w.cell? ⟨pw, o, none⟩ := fun o ho => World.cell?_setCell_other _ _ _ _ (by intro e; injection e with _ e2; omega)
  refine ⟨⟨?_, h.hB, h.ne, ?_, (hcell 0 (by omega)).trans h.c0, (hcell 1 (by omega)).trans h.c1, (hcell 2 (by omega)).trans h.c2, (hcell 6 (by omega)).trans h.c6, (hcell 7 (by omega)).trans h.c7, (hcell 8 (by omega)).trans h.c8, World.cell?_setCell_same' _ _ _ (by rw [h.c9]; rfl), (hcell 10 (by omega)).trans h.c10, fun j => (World.frozen?_setCell _ _ _ _).trans (h.f j), h.nx⟩, ⟨(Below.refl _ _).setCell h.hB _, fun k o hk h1 _ _ _ => (Below.heap_setCell _ _ _ _ (by exact h1)).trans hk, fun k hx _ => Below.heap_setCell _ _ _ _ (by exact h.nx k hx)⟩⟩
  · rcases h.oth with ⟨rfl, rfl⟩ | ⟨hne, ⟨c, t, fz, hc, ht⟩, hba⟩
    · exact h.sw.set (by omega) (by omega) (by omega)
    · exact h.sw.setOther hne h.ne fun c' fz' e => by
        have := hc.symm.trans e
        cases this
        exact ht rfl
  · rcases h.oth with h1 | ⟨hne, ⟨c, t, fz, hc, ht⟩, hba⟩
    · exact .inl h1
    · refine .inr ⟨hne, ⟨c.setIfInBounds 9 (.int .i64 (ln' : Nat)), t, fz, ?_, ht⟩, hba.set (by omega) (by omega) (by omega)⟩
      show (w.heap.modify pw _)[pw]? = _
      rw [Array.getElem?_modify, if_pos rfl, hc]
      rfl

def widthZ (z : Nat) : Nat := if z = 10 then 0 else 1
theorem width_any (z : Nat) (w : World) (h : z = 10 ∨ (32 ≤ z ∧ z ≤ 126)) : Calls Tryd.prog 57 #[.int .i32 (z : Nat)] w fun e w' => e = .returned (.int .i64 (widthZ z : Nat)) ∧ w = w' := by
  rcases h with rfl | ⟨h1, h2⟩
  · go_enter Tryd.func57, Tryd.ntmps57
    go_wp2_with fail
    go_returns
    exact ⟨rfl, rfl⟩
  · have q1 : ¬ ((z : Int) < 32) := by omega
    have q2 : ¬ ((127 : Int) ≤ z) := by omega
    have q3 : ((z : Int) == 173) = false := by simp; omega
    have hw : widthZ z = 1 := by unfold widthZ; rw [if_neg (by omega)]
    rw [hw]
    clear hw
    go_enter Tryd.func57, Tryd.ntmps57
    go_wp2_with fail
    go_returns
    exact ⟨rfl, rfl⟩
end Go.Proofs.YtbibokkclejapaaDoor
