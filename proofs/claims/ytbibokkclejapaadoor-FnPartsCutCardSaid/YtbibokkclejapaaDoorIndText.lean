/- Slices of bytes that are a text; a writer of sequences beside a string's iterator. -/
import Derived.Test.YtbibokkclejapaaDoorIndRestore
import Derived.Lib.OthersKept
import Derived.Laws.IdiomStrings
import Derived.Laws.BytesArg
namespace Go.Proofs.YtbibokkclejapaaDoor
open Go.RowKit
set_option linter.unusedVariables false
set_option linter.unusedSimpArgs false
variable {X : Nat → Prop}

/-- A slice of bytes reads as a text, now and as long as nothing that is there changes. -/
def TextAt (w : World) (a : Option Addr) (n c : Nat) (s : ByteArray) : Prop := s.size = n ∧ ∀ W, Below w.heap.size w W → (convert 51 9 (.slice a n c)).run Tryd.prog W = .ok (.string s) W
theorem TextAt.below {w w' : World} {a : Option Addr} {n c : Nat} {s : ByteArray} (h : TextAt w a n c s) (hb : Below w.heap.size w w') : TextAt w' a n c s :=
  ⟨h.1, fun W hW => h.2 W (hb.trans (hW.mono hb.size))⟩
theorem text_at (W : World) (g : Nat) (l : List UInt8) (c : Nat) (h : ∀ j (hj : j < l.length), W.cell? ⟨g, j, none⟩ = some (.int .u8 (l[j].toNat : Int))) (hg : g < W.heap.size) : TextAt W (some ⟨g, 0, none⟩) l.length c ⟨l.toArray⟩ :=
  ⟨by simp [ByteArray.size], fun W' hb => run_convert_bytes_back (P := Tryd.prog) W' 51 9 5 ⟨g, 0, none⟩ c l Tryd.underlying51 Tryd.underlying5 Tryd.underlying9 (fun j hj => by
    have e : (⟨g, 0, none⟩ : Addr).add j = ⟨g, j, none⟩ := by
      unfold Addr.add
      by_cases e : j = 0
      · rw [if_pos e, e]
      · rw [if_neg e, Nat.zero_add]
    rw [e]
    exact (hb.cell (p := ⟨g, j, none⟩) hg).trans (h j hj))⟩
theorem text_none (W : World) (c : Nat) : TextAt W none 0 c ⟨#[]⟩ :=
  ⟨rfl, fun W' _ => run_convert_bytes_nil (P := Tryd.prog) W' 51 5 Tryd.underlying51 Tryd.underlying5 0 c 9 Tryd.underlying9⟩
/-- What a conversion of a string to bytes makes. -/
theorem made_text (s : ByteArray) (w : World) : ∃ c W, (convert 9 51 (.string s)).run Tryd.prog w = .ok (.slice (some ⟨w.heap.size, 0, none⟩) s.size c) W ∧ Below w.heap.size w W ∧ w.heap.size < W.heap.size ∧ TextAt W (some ⟨w.heap.size, 0, none⟩) s.size c s := by
  have hcv := run_bytes_of_string (P := Tryd.prog) w 9 51 5 s Tryd.underlying9 Tryd.underlying51 Tryd.underlying5
  have hcell : ∀ j (hj : j < s.data.toList.length), (w.drew.alloc (.cells (bytesRow s (grownCap w s.size 0 5)) 5 ((bytesRow s (grownCap w s.size 0 5)).size, (bytesRow s (grownCap w s.size 0 5)).size + 1))).cell? ⟨w.heap.size, j, none⟩ = some (.int .u8 (s.data.toList[j].toNat : Int)) := fun j hj => by
    have e : (bytesRow s (grownCap w s.size 0 5))[j]? = some (.int .u8 (s.data.toList[j].toNat : Int)) := by
      unfold bytesRow
      rw [Array.getElem?_append_left (by simpa using hj)]
      simp at hj
      simp [hj]
    rw [World.cell?, show (w.drew.alloc (.cells (bytesRow s (grownCap w s.size 0 5)) 5 ((bytesRow s (grownCap w s.size 0 5)).size, (bytesRow s (grownCap w s.size 0 5)).size + 1))).heap[w.heap.size]? = _ from heap_alloc_new w.drew _]
    simpa using e
  obtain ⟨W, hW⟩ : ∃ W, W = w.drew.alloc (.cells (bytesRow s (grownCap w s.size 0 5)) 5 ((bytesRow s (grownCap w s.size 0 5)).size, (bytesRow s (grownCap w s.size 0 5)).size + 1)) := ⟨_, rfl⟩
  have bW : Below w.heap.size w W := by rw [hW]; exact (Below.refl _ _).drew.alloc (Nat.le_refl _) _
  have zW : w.heap.size < W.heap.size := by
    rw [hW]
    show w.heap.size < (w.heap.push _).size
    rw [Array.size_push]
    exact Nat.lt_succ_self _
  rw [← hW] at hcv hcell
  have ht := text_at W w.heap.size s.data.toList (grownCap w s.size 0 5) hcell zW
  have e1 : s.data.toList.length = s.size := by rw [Array.length_toList]; rfl
  rw [e1, show (⟨s.data.toList.toArray⟩ : ByteArray) = s from congrArg ByteArray.mk s.data.toArray_toList] at ht
  exact ⟨_, W, hcv, bW, zW, ht⟩

/-! ### Beside an iterator -/
theorem BA.same {w w' : World} {b q : Nat} {A : Option Addr} {cap : Nat} {l : List UInt8} (h : BA w b q A cap l) (hb : w'.heap[b]? = w.heap[b]?) (hA : ∀ g, A = some ⟨g, 0, none⟩ → w'.heap[g]? = w.heap[g]?) : BA w' b q A cap l := by
  obtain ⟨lr, c2⟩ := h.c2
  have hc : ∀ o, w'.cell? ⟨b, o, none⟩ = w.cell? ⟨b, o, none⟩ := fun o => World.cell?_of_block (w := w) hb
  refine ⟨(hc _).trans h.c0, (hc _).trans h.c1, ⟨lr, (hc _).trans c2⟩, fun j => (World.frozen?_of_block (w := w) hb).trans (h.f j), ?_⟩
  rcases h.row with h0 | ⟨g, cur, ha, hg, k1, k2, k3, k4, k5⟩
  · exact .inl h0
  · exact .inr ⟨g, cur, ha, (hA g ha).trans hg, k1, k2, k3, k4, k5⟩
theorem SWc.congr {B ab b q : Nat} {A : Option Addr} {R : Option Nat} {w w' : World} {l : List UInt8} (h : SWc X B ab b q A R w l) (hsz : w.heap.size ≤ w'.heap.size) (hb : w'.heap[b]? = w.heap[b]?) (ha : w'.heap[ab]? = w.heap[ab]?) (hk : ∀ (k : Nat) c fz, w.heap[k]? = some (Obj.cells c 5 fz) → w'.heap[k]? = w.heap[k]?) : SWc X B ab b q A R w' l := by
  obtain ⟨cap, hba⟩ := h.buf
  obtain ⟨lr, c7⟩ := h.c7
  have hc : ∀ o, w'.cell? ⟨ab, o, none⟩ = w.cell? ⟨ab, o, none⟩ := fun o => World.cell?_of_block (w := w) ha
  refine ⟨⟨cap, hba.same hb fun g hg => ?_⟩, h.hb, h.hab, h.ne, h.rowA, fun r hr => ?_, (hc 0).trans h.c0, (hc 1).trans h.c1, (hc 5).trans h.c5, (hc 6).trans h.c6, ⟨lr, (hc 7).trans c7⟩, (hc 8).trans h.c8, (hc 9).trans h.c9, fun j => (World.frozen?_of_block (w := w) ha).trans (h.fz j), fun k hx => ?_⟩
  · rcases hba.row with ⟨h1, _⟩ | ⟨g', cur, h1, h2, _⟩
    · rw [hg] at h1; cases h1
    · rw [hg] at h1
      cases h1
      exact hk g _ _ h2
  · obtain ⟨h1, h2, h3, cur, h4, h5⟩ := h.rowR r hr
    exact ⟨h1, h2, h3, cur, (hk r _ _ h4).trans h4, h5⟩
  · obtain ⟨k1, k2⟩ := h.av k hx
    exact ⟨Nat.lt_of_lt_of_le k1 hsz, k2⟩
theorem SWc.same {B ab b q : Nat} {A : Option Addr} {R : Option Nat} {w w' : World} {l : List UInt8} (h : SWc X B ab b q A R w l) (hsz : w.heap.size ≤ w'.heap.size) (hk : ∀ k : Nat, (∀ s p, w.heap[k]? ≠ some (Obj.stringIter s p)) → w'.heap[k]? = w.heap[k]?) : SWc X B ab b q A R w' l := by
  obtain ⟨cap, hba⟩ := h.buf
  exact h.congr hsz (hk b fun s p e => iter_ne e hba.c0 rfl) (hk ab fun s p e => iter_ne e h.c0 rfl) fun k c fz e => hk k fun s p e2 => by rw [e] at e2; cases e2
/-- Another block that is no row of bytes may change. -/
theorem SW.setOther {B ab b q : Nat} {w : World} {l : List UInt8} (h : SW X B ab b q w l) {a : Addr} {v : Value} (h1 : a.block ≠ b) (h2 : a.block ≠ ab) (h3 : ∀ c fz, w.heap[a.block]? ≠ some (.cells c 5 fz)) : SW X B ab b q (w.setCell a v) l := by
  obtain ⟨A, R, h⟩ := h
  refine ⟨A, R, h.congr (by simp [World.setCell]) (Below.heap_setCell _ _ _ _ (Ne.symm h1)) (Below.heap_setCell _ _ _ _ (Ne.symm h2)) fun k c fz e => Below.heap_setCell _ _ _ _ (fun e2 => h3 c fz (by rw [← e2]; exact e))⟩
theorem SW.iterAt {B ab b q : Nat} {w : World} {l : List UInt8} (h : SW X B ab b q w l) {it : Nat} {s : ByteArray} {p : Nat} (hi : w.heap[it]? = some (.stringIter s p)) (p' : Nat) : SW X B ab b q (w.iterAt it s p') l := by
  obtain ⟨A, R, h⟩ := h
  exact ⟨A, R, h.same (by rw [Go.Lib.iterAt_size]; exact Nat.le_refl _) fun k hk => Go.Lib.iterAt_other w it k s p' fun e => hk s p (by rw [e]; exact hi)⟩
theorem On.iterAt {B ab b q : Nat} {w0 w : World} (h : On X B ab b q w0 w) {it : Nat} (hB : B ≤ it) (hb : b ≠ it) (h0 : w0.heap.size ≤ it) (s : ByteArray) (p : Nat) : On X B ab b q w0 (w.iterAt it s p) := by
  have hbb := Go.Lib.iterAt_other w it b s p hb
  exact ⟨Go.Lib.below_iterAt h.below hB s p, fun k o hk k1 k2 k3 => (Go.Lib.iterAt_other w it k s p (by have := (Array.getElem?_eq_some_iff.1 hk).1; omega)).trans (h.oth k o hk k1 k2 k3), fun o h1 h2 h3 => (World.cell?_of_block (w := w) hbb).trans (h.cells o h1 h2 h3), fun j => (World.frozen?_of_block (w := w) hbb).trans (h.fz j), fun k hx hk => (Go.Lib.iterAt_other w it k s p (by omega)).trans (h.av k hx hk)⟩
theorem iterPos_at {w : World} {it : Nat} {s : ByteArray} {p : Nat} (h : w.heap[it]? = some (.stringIter s p)) : w.iterPos it = p := by
  simp [World.iterPos, h]
end Go.Proofs.YtbibokkclejapaaDoor
