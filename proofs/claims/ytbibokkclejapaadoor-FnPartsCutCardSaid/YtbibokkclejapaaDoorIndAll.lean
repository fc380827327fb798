/- impl.Indented of plain texts. -/
import Derived.Test.YtbibokkclejapaaDoorIndIWrite
namespace Go.Proofs.YtbibokkclejapaaDoor
open Go.RowKit
set_option linter.unusedVariables false
set_option linter.unusedSimpArgs false
variable {X : Nat → Prop}

theorem BA.text {w : World} {b q : Nat} {A : Option Addr} {cap : Nat} {l : List UInt8} (h : BA w b q A cap l) : TextAt w A l.length cap (tx l) := by
  rcases h.row with ⟨rfl, _, rfl⟩ | ⟨g, cur, rfl, hg, h1, h2, _, h4, _⟩
  · exact text_none w cap
  · refine text_at w g l cap (fun j hj => ?_) (Array.getElem?_eq_some_iff.1 hg).1
    rw [World.cell?, hg]
    show cur[j]? = _
    have e : (cur.toList.take l.length)[j]? = (Lib.byteCells l)[j]? := by rw [h4]
    rw [List.getElem?_take_of_lt hj, Array.getElem?_toList] at e
    rw [e]
    simp [Lib.byteCells, hj]
/-- The writer that NewWriter makes. -/
theorem IW.start (n : Nat) (fn : Value) (w : World) (hX : ∀ k, X k → k < w.heap.size) : IW X w.heap.size w.heap.size (w.heap.size + 1) w.heap.size 3 n fn ((w.alloc (.cells (iwCells (n : Nat) fn (w.heap.size + 1)) 71)).alloc (.cells (awCells w.heap.size) 75)) [] false := by
  obtain ⟨W, hW⟩ : ∃ W, W = (w.alloc (.cells (iwCells (n : Nat) fn (w.heap.size + 1)) 71)).alloc (.cells (awCells w.heap.size) 75) := ⟨_, rfl⟩
  have hb : W.heap[w.heap.size]? = some (.cells (iwCells (n : Nat) fn (w.heap.size + 1)) 71 (0, 0)) := by
    rw [hW, Below.heap_alloc _ _ _ (by simp)]
    exact heap_alloc_new w _
  have ha : W.heap[w.heap.size + 1]? = some (.cells (awCells w.heap.size) 75 (0, 0)) := by
    have := heap_alloc_new (w.alloc (.cells (iwCells (n : Nat) fn (w.heap.size + 1)) 71)) (.cells (awCells w.heap.size) 75 (0, 0))
    rw [← hW] at this
    simpa using this
  rw [← hW]
  have cb : ∀ o, W.cell? ⟨w.heap.size, o, none⟩ = (iwCells (n : Nat) fn (w.heap.size + 1))[o]? := fun o => by rw [World.cell?, hb]; rfl
  have ca : ∀ o, W.cell? ⟨w.heap.size + 1, o, none⟩ = (awCells w.heap.size)[o]? := fun o => by rw [World.cell?, ha]; rfl
  have fb : ∀ o, W.frozen? ⟨w.heap.size, o, none⟩ = false := fun o => by rw [World.frozen?, hb]; simp
  have fa : ∀ o, W.frozen? ⟨w.heap.size + 1, o, none⟩ = false := fun o => by rw [World.frozen?, ha]; simp
  refine ⟨⟨none, none, ⟨0, cb 3, cb 4, ⟨0, cb 5⟩, fb, .inl ⟨rfl, rfl, rfl⟩⟩, Nat.le_refl _, by omega, by omega, fun g hg => (by cases hg), fun r hr => (by cases hr), ca 0, ca 1, ca 5, ca 6, ⟨0, ca 7⟩, ca 8, ca 9, fa, fun k hx => ⟨Nat.lt_trans (hX k hx) (Array.getElem?_eq_some_iff.1 hb).1, by have := hX k hx; omega, by have := hX k hx; omega, (fun e => by cases e), (fun e => by cases e)⟩⟩, Nat.le_refl _, by omega, .inl ⟨rfl, rfl⟩, cb 0, cb 1, cb 2, cb 6, cb 7, fb, fun k hx => by have := hX k hx; omega⟩
theorem start_below (n : Nat) (fn : Value) (w : World) : Below w.heap.size w ((w.alloc (.cells (iwCells (n : Nat) fn (w.heap.size + 1)) 71)).alloc (.cells (awCells w.heap.size) 75)) :=
  ((Below.refl _ _).alloc (Nat.le_refl _) _).alloc (by simp) _

def BytesPost (l : List UInt8) (w : World) (e : Ending) (w' : World) : Prop := ∃ A cap, e = .returned (.slice A l.length cap) ∧ TextAt w' A l.length cap (tx l) ∧ Below w.heap.size w w'

theorem iw_bytes (B ab b n : Nat) (fn : Value) (l : List UInt8) (sk : Bool) (w : World) (h : IW X B b ab b 3 n fn w l sk) : Calls Tryd.prog 63 #[.pointer (some ⟨b, 0, none⟩)] w (BytesPost l w) := by
  obtain ⟨A, R, hs⟩ := h.sw
  obtain ⟨cap, hb⟩ := hs.buf
  have HB := Go.Lib.hid (buf_bytes b 3 A cap l w hb)
  have HT := Go.Lib.hid hb.text
  have hz := h.lt.1
  have c0 := h.c0
  clear h hs hb
  obtain ⟨m, hm⟩ : ∃ m, m = l.length := ⟨_, rfl⟩
  have HM := Go.Lib.hid hm
  clear hm
  go_enter Tryd.func63, Tryd.ntmps63
  go_wp2_with fail
  refine HB.out.mono ?_
  rintro e w1 ⟨rfl, k, rfl⟩
  go_wp2_with fail
  go_returns
  exact ⟨A, cap, rfl, HT.out.below (below_drewN (Below.refl _ _) _), below_drewN (Below.refl _ _) _⟩

set_option maxHeartbeats 800000 in
theorem ibytes_any (n : Nat) (l : List UInt8) (a : Option Addr) (c : Nat) (w : World) (ht : TextAt w a l.length c (tx l)) (hp : ∀ c ∈ l, c.toNat < 128 ∧ c.toNat ≠ 27) (hn : n ≤ 1000) (hl : (ind n false l).length + n ≤ 900000) (hll : l.length ≤ 900000) :
    Calls Tryd.prog 48 #[.slice a l.length c, .int .u64 (n : Nat)] w (BytesPost (ind n false l) w) := by
  have HN := Go.Lib.hid (newWriter_any (n : Nat) w)
  obtain ⟨W, hW⟩ : ∃ W, W = (w.alloc (.cells (iwCells (n : Nat) .nilFunc (w.heap.size + 1)) 71)).alloc (.cells (awCells w.heap.size) 75) := ⟨_, rfl⟩
  have hb := start_below n .nilFunc w
  have hi := IW.start (X := fun _ => False) n .nilFunc w (fun _ h => h.elim)
  rw [← hW] at hb hi HN
  have HI := Go.Lib.hid hi
  have HB := Go.Lib.hid hb
  have HW := Go.Lib.hid (iw_write _ _ _ _ _ n [] l false a c W hi hn (ht.below hb) hp (by rw [ind_eq] at hl; simpa using hl) hll)
  obtain ⟨m, hm⟩ : ∃ m, m = l.length := ⟨_, rfl⟩
  rw [← hm] at HW ⊢
  clear ht hp hl hll hW hb hi hm
  go_enter Tryd.func48, Tryd.ntmps48
  go_wp2_with fail
  refine HN.out.mono ?_
  rintro e w1 ⟨rfl, rfl⟩
  go_wp2_with fail
  refine HW.out.mono ?_
  rintro e w2 ⟨rfl, i2, o2⟩
  have O2 := Go.Lib.hid (HB.out.trans o2.below)
  have HY := Go.Lib.hid (iw_bytes _ _ _ _ _ _ _ w2 i2)
  clear i2 o2
  go_wp2_with fail
  refine HY.out.mono ?_
  rintro e w3 ⟨A, cap, rfl, t3, b3⟩
  rw [← ind_eq, List.nil_append] at t3 ⊢
  have T3 := Go.Lib.hid t3
  have B3 := Go.Lib.hid (O2.out.trans (b3.mono O2.out.size))
  clear t3 b3
  go_wp2_with fail
  go_returns
  exact ⟨A, cap, rfl, T3.out, B3.out⟩

set_option maxHeartbeats 800000 in
theorem istring_any (n : Nat) (l : List UInt8) (w : World) (hp : ∀ c ∈ l, c.toNat < 128 ∧ c.toNat ≠ 27) (hn : n ≤ 1000) (hl : (ind n false l).length + n ≤ 900000) (hll : l.length ≤ 900000) :
    Calls Tryd.prog 26 #[.string (tx l), .int .u64 (n : Nat)] w fun e w' => e = .returned (.string (tx (ind n false l))) ∧ Below w.heap.size w w' := by
  obtain ⟨c, W, hcv, hb, ht⟩ := made_tx l w
  have HB := Go.Lib.hid hb
  have HI := Go.Lib.hid (ibytes_any n l (some ⟨w.heap.size, 0, none⟩) c W ht hp hn hl hll)
  obtain ⟨m, hm⟩ : ∃ m, m = l.length := ⟨_, rfl⟩
  rw [← hm] at HI hcv
  clear ht hp hl hll hb hm
  go_enter Tryd.func26, Tryd.ntmps26
  go_wp2_with fail
  refine HI.out.mono ?_
  rintro e w1 ⟨A, cap, rfl, t1, b1⟩
  have hcv2 := t1.2 w1 (Below.refl _ _)
  have B1 := Go.Lib.hid (HB.out.trans (b1.mono HB.out.size))
  clear t1 b1
  go_wp2_with fail
  go_returns
  exact ⟨rfl, B1.out⟩

theorem indented_any (n : Nat) (l : List UInt8) (w : World) (hp : ∀ c ∈ l, c.toNat < 128 ∧ c.toNat ≠ 27) (hn : n ≤ 1000) (hl : (ind n false l).length + n ≤ 900000) (hll : l.length ≤ 900000) :
    Calls Tryd.prog 10 #[.string (tx l), .int .u64 (n : Nat)] w fun e w' => e = .returned (.string (tx (ind n false l))) ∧ Below w.heap.size w w' := by
  have HI := Go.Lib.hid (istring_any n l w hp hn hl hll)
  clear hp hl hll
  go_enter Tryd.func10, Tryd.ntmps10
  go_wp2_with fail
  refine HI.out.mono ?_
  rintro e w1 ⟨rfl, b1⟩
  have B1 := Go.Lib.hid b1
  clear b1
  go_wp2_with fail
  go_returns
  exact ⟨rfl, B1.out⟩
end Go.Proofs.YtbibokkclejapaaDoor
