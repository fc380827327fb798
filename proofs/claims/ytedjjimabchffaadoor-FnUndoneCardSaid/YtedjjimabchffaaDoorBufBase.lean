/- A buffer in memory: NewBuffer, BufferAt, Text, At, setText, setCursorPosition, setDocument. -/
import Derived.Test.YtedjjimabchffaaDoorDocCursor
import Derived.RegionTactic
import Derived.BigRegion
namespace Go.Proofs.YtedjjimabchffaaDoor
open Go.RowKit
set_option linter.unusedVariables false
set_option linter.unusedSimpArgs false

/-- A block that holds a document. -/
def DocBlock (w : World) (d : Nat) : Prop := ∃ cs fr, w.heap[d]? = some (.cells cs 50 fr)
theorem DocBlock.of {w w' : World} {d : Nat} (h : DocBlock w d) (e : w'.heap[d]? = w.heap[d]?) : DocBlock w' d := by
  obtain ⟨cs, fr, h⟩ := h
  exact ⟨cs, fr, e.trans h⟩
theorem DocBlock.lt {w : World} {d : Nat} (h : DocBlock w d) : d < w.heap.size := by
  obtain ⟨cs, fr, h⟩ := h
  exact (Array.getElem?_eq_some_iff.1 h).1
theorem DocBlock.set {w : World} {d : Nat} (h : DocBlock w d) (a : Addr) (v : Value) (ha : a.block ≠ d) : DocBlock (w.setCell a v) d := by
  obtain ⟨cs, fr, h⟩ := h
  refine ⟨cs, fr, ?_⟩
  rw [Below.heap_setCell _ _ _ _ (fun e => ha e.symm)]
  exact h
theorem DocBlock.new (w : World) (cs : Array Value) : DocBlock (w.alloc (.cells cs 50)) w.heap.size := ⟨cs, _, heap_alloc_new w _⟩

/-- What a buffer keeps as its last document: nothing, or one in a block of its own. -/
def Cached (w : World) (bb lb : Nat) (c : Option Addr) : Prop := c = none ∨ ∃ d s k, c = some ⟨d, 0, none⟩ ∧ (DocAt w d s k ∧ DocBlock w d) ∧ d ≠ bb ∧ d ≠ lb

/-- A buffer in block bb, its text in block lb: the text, and the place of the cursor. -/
structure Buf (w : World) (bb lb : Nat) (s : ByteArray) (k : Nat) : Prop where
  c0 : w.cell? ⟨bb, 0, none⟩ = some (.slice (some ⟨lb, 0, none⟩) 1 1)
  c1 : w.cell? ⟨bb, 1, none⟩ = some (.int .i64 0)
  c2 : w.cell? ⟨bb, 2, none⟩ = some (.int .i64 (k : Nat))
  c3 : ∃ c, w.cell? ⟨bb, 3, none⟩ = some (.pointer c) ∧ Cached w bb lb c
  c4 : ∃ p, w.cell? ⟨bb, 4, none⟩ = some (.int .i64 p)
  t : w.cell? ⟨lb, 0, none⟩ = some (.string s)
  f : ∀ j, w.frozen? ⟨bb, j, none⟩ = false
  g : w.frozen? ⟨lb, 0, none⟩ = false
  lt : lb < bb
  sz : bb < w.heap.size

theorem Buf.below {w w' : World} {bb lb : Nat} {s : ByteArray} {k : Nat} (h : Buf w bb lb s k) (hb : Below w.heap.size w w') : Buf w' bb lb s k := by
  obtain ⟨c0, c1, c2, ⟨c, c3, hc⟩, ⟨p, c4⟩, t, f, g, lt, sz⟩ := h
  have e : ∀ j, w'.cell? ⟨bb, j, none⟩ = w.cell? ⟨bb, j, none⟩ := fun j => hb.cell (p := ⟨bb, j, none⟩) sz
  refine ⟨(e 0).trans c0, (e 1).trans c1, (e 2).trans c2, ⟨c, (e 3).trans c3, ?_⟩, ⟨p, (e 4).trans c4⟩, (hb.cell (p := ⟨lb, 0, none⟩) (Nat.lt_trans lt sz)).trans t, fun j => (hb.frozen (p := ⟨bb, j, none⟩) sz).trans (f j), (hb.frozen (p := ⟨lb, 0, none⟩) (Nat.lt_trans lt sz)).trans g, lt, Nat.lt_of_lt_of_le sz hb.size⟩
  rcases hc with h | ⟨d, s', k', h, hd, n1, n2⟩
  · exact .inl h
  · exact .inr ⟨d, s', k', h, ⟨hd.1.below hb, hd.2.of (hb.block d hd.2.lt)⟩, n1, n2⟩

theorem DocAt.other {w : World} {d : Nat} {s : ByteArray} {k : Nat} (h : DocAt w d s k) (a : Addr) (v : Value) (ha : a.block ≠ d) : DocAt (w.setCell a v) d s k :=
  ⟨by rw [World.cell?_setCell_other _ _ _ _ (by intro e; exact ha (by rw [e]))]; exact h.1, by rw [World.cell?_setCell_other _ _ _ _ (by intro e; exact ha (by rw [e]))]; exact h.2.1, by simpa using h.2.2⟩

theorem Buf.drew {w : World} {bb lb : Nat} {s : ByteArray} {k : Nat} (h : Buf w bb lb s k) : Buf w.drew bb lb s k := h.below (Below.refl _ _).drew

/-- The text is another one. -/
theorem Buf.text {w : World} {bb lb : Nat} {s : ByteArray} {k : Nat} (h : Buf w bb lb s k) (v : ByteArray) : Buf (w.setCell ⟨lb, 0, none⟩ (.string v)) bb lb v k := by
  obtain ⟨c0, c1, c2, ⟨c, c3, hc⟩, ⟨p, c4⟩, t, f, g, lt, sz⟩ := h
  have e : ∀ j, (w.setCell ⟨lb, 0, none⟩ (.string v)).cell? ⟨bb, j, none⟩ = w.cell? ⟨bb, j, none⟩ := fun j => World.cell?_setCell_other _ _ _ _ (by intro h; have := congrArg Addr.block h; simp at this; omega)
  refine ⟨(e 0).trans c0, (e 1).trans c1, (e 2).trans c2, ⟨c, (e 3).trans c3, ?_⟩, ⟨p, (e 4).trans c4⟩, World.cell?_setCell_same' _ _ _ (by rw [t]; rfl), fun j => by rw [World.frozen?_setCell]; exact f j, by rw [World.frozen?_setCell]; exact g, lt, by simpa using sz⟩
  rcases hc with h | ⟨d, s', k', h, hd, n1, n2⟩
  · exact .inl h
  · exact .inr ⟨d, s', k', h, ⟨hd.1.other _ _ (fun e => n2 e.symm), hd.2.set _ _ (fun e => n2 e.symm)⟩, n1, n2⟩

/-- The cursor is at another place. -/
theorem Buf.cursor {w : World} {bb lb : Nat} {s : ByteArray} {k : Nat} (h : Buf w bb lb s k) (m : Nat) : Buf (w.setCell ⟨bb, 2, none⟩ (.int .i64 (m : Nat))) bb lb s m := by
  obtain ⟨c0, c1, c2, ⟨c, c3, hc⟩, ⟨p, c4⟩, t, f, g, lt, sz⟩ := h
  have e : ∀ j, j ≠ 2 → (w.setCell ⟨bb, 2, none⟩ (.int .i64 (m : Nat))).cell? ⟨bb, j, none⟩ = w.cell? ⟨bb, j, none⟩ := fun j hj => World.cell?_setCell_other _ _ _ _ (by intro h; have := congrArg Addr.off h; simp at this; omega)
  refine ⟨(e 0 (by omega)).trans c0, (e 1 (by omega)).trans c1, World.cell?_setCell_same' _ _ _ (by rw [c2]; rfl), ⟨c, (e 3 (by omega)).trans c3, ?_⟩, ⟨p, (e 4 (by omega)).trans c4⟩, ?_, fun j => by rw [World.frozen?_setCell]; exact f j, by rw [World.frozen?_setCell]; exact g, lt, by simpa using sz⟩
  · rcases hc with h | ⟨d, s', k', h, hd, n1, n2⟩
    · exact .inl h
    · exact .inr ⟨d, s', k', h, ⟨hd.1.other _ _ (fun e => n1 e.symm), hd.2.set _ _ (fun e => n1 e.symm)⟩, n1, n2⟩
  · rw [World.cell?_setCell_other _ _ _ _ (by intro h; have := congrArg Addr.block h; simp at this; omega)]; exact t

/-- The last document is another one. -/
theorem Buf.cache {w : World} {bb lb : Nat} {s : ByteArray} {k : Nat} (h : Buf w bb lb s k) (d : Nat) (s' : ByteArray) (k' : Nat) (hd : DocAt w d s' k') (hdb : DocBlock w d) (n1 : d ≠ bb) (n2 : d ≠ lb) : Buf (w.setCell ⟨bb, 3, none⟩ (.pointer (some ⟨d, 0, none⟩))) bb lb s k := by
  obtain ⟨c0, c1, c2, ⟨c, c3, hc⟩, ⟨p, c4⟩, t, f, g, lt, sz⟩ := h
  have e : ∀ j, j ≠ 3 → (w.setCell ⟨bb, 3, none⟩ (.pointer (some ⟨d, 0, none⟩))).cell? ⟨bb, j, none⟩ = w.cell? ⟨bb, j, none⟩ := fun j hj => World.cell?_setCell_other _ _ _ _ (by intro h; have := congrArg Addr.off h; simp at this; omega)
  refine ⟨(e 0 (by omega)).trans c0, (e 1 (by omega)).trans c1, (e 2 (by omega)).trans c2, ⟨_, World.cell?_setCell_same' _ _ _ (by rw [c3]; rfl), .inr ⟨d, s', k', rfl, ⟨hd.other _ _ (fun e => n1 e.symm), hdb.set _ _ (fun e => n1 e.symm)⟩, n1, n2⟩⟩, ⟨p, (e 4 (by omega)).trans c4⟩, ?_, fun j => by rw [World.frozen?_setCell]; exact f j, by rw [World.frozen?_setCell]; exact g, lt, by simpa using sz⟩
  rw [World.cell?_setCell_other _ _ _ _ (by intro h; have := congrArg Addr.block h; simp at this; omega)]; exact t

/-- What a step of a buffer leaves alone: all but the buffer's own two blocks. -/
structure Own (bb lb : Nat) (w w' : World) : Prop where
  os : w'.os = w.os
  tape : w'.tape = w.tape
  output : w'.output = w.output
  size : w.heap.size ≤ w'.heap.size
  rest : ∀ k, k < w.heap.size → k ≠ bb → k ≠ lb → w'.heap[k]? = w.heap[k]?

theorem Own.refl (bb lb : Nat) (w : World) : Own bb lb w w := ⟨rfl, rfl, rfl, Nat.le_refl _, fun _ _ _ _ => rfl⟩
theorem Own.trans {bb lb : Nat} {a b c : World} (h : Own bb lb a b) (k : Own bb lb b c) : Own bb lb a c :=
  ⟨k.os.trans h.os, k.tape.trans h.tape, k.output.trans h.output, Nat.le_trans h.size k.size, fun i hi h1 h2 => (k.rest i (Nat.lt_of_lt_of_le hi h.size) h1 h2).trans (h.rest i hi h1 h2)⟩
theorem Own.of {bb lb : Nat} {w w' : World} (h : Below w.heap.size w w') : Own bb lb w w' := ⟨h.os, h.tape, h.output, h.size, fun k hk _ _ => h.block k hk⟩
theorem Own.after {bb lb : Nat} {a b c : World} (h : Own bb lb a b) (k : Below b.heap.size b c) : Own bb lb a c := h.trans (.of k)
theorem Own.drew {bb lb : Nat} {a w : World} (h : Own bb lb a w) : Own bb lb a w.drew := h.after (Below.refl _ _).drew
theorem Own.alloc {bb lb : Nat} {a w : World} (h : Own bb lb a w) (o : Obj) : Own bb lb a (w.alloc o) := h.after ((Below.refl _ _).alloc (Nat.le_refl _) _)
theorem Own.set {bb lb : Nat} {a w : World} {p : Addr} (h : Own bb lb a w) (hp : p.block = bb ∨ p.block = lb) (u : Value) : Own bb lb a (w.setCell p u) :=
  h.trans ⟨rfl, rfl, rfl, by simp [World.setCell], fun k _ h1 h2 => Below.heap_setCell _ _ _ _ (by rcases hp with e | e <;> rw [e] <;> assumption)⟩
theorem Own.setB {bb lb : Nat} {a w : World} (h : Own bb lb a w) (o : Nat) (u : Value) : Own bb lb a (w.setCell ⟨bb, o, none⟩ u) := h.set (.inl rfl) u
theorem Own.setL {bb lb : Nat} {a w : World} (h : Own bb lb a w) (o : Nat) (u : Value) : Own bb lb a (w.setCell ⟨lb, o, none⟩ u) := h.set (.inr rfl) u
theorem Own.below {bb lb : Nat} {w w' : World} (h : Own bb lb w w') (lt : lb ≤ bb) (hz : lb ≤ w.heap.size) : Below lb w w' :=
  ⟨h.os, h.tape, h.output, h.size, fun k hk => h.rest k (by omega) (by omega) (by omega)⟩

theorem buf_text (bb lb : Nat) (s : ByteArray) (k : Nat) (w : World) (h : Buf w bb lb s k) :
    Calls Tryd.prog 25 #[.pointer (some ⟨bb, 0, none⟩)] w fun e w' => e = .returned (.string s) ∧ ∃ q, w' = w.drewN q := by
  obtain ⟨c0, c1, c2, hc3, hc4, t, f, g, lt, sz⟩ := h
  have h01 : (0 : Int) < ((1 : Nat) : Int) := by omega
  have hl : lb < w.heap.size := by omega
  clear hc3 hc4 f
  go_enter Tryd.func25, Tryd.ntmps25
  go_wp2_with fail
  go_quiet (fail)
  go_wp2_with fail
  go_returns
  exact ⟨rfl, _, rfl⟩

theorem buf_at (bb lb : Nat) (s : ByteArray) (k : Nat) (w : World) (h : Buf w bb lb s k) :
    Calls Tryd.prog 26 #[.pointer (some ⟨bb, 0, none⟩)] w fun e w' => e = .returned (.int .i64 (k : Nat)) ∧ w' = w := by
  obtain ⟨c0, c1, c2, hc3, hc4, t, f, g, lt, sz⟩ := h
  clear hc3 hc4 f
  go_enter Tryd.func26, Tryd.ntmps26
  go_wp2_with fail
  go_returns
  exact ⟨rfl, rfl⟩

theorem set_text (bb lb : Nat) (s v : ByteArray) (k : Nat) (w : World) (h : Buf w bb lb s k) :
    Calls Tryd.prog 43 #[.pointer (some ⟨bb, 0, none⟩), .string v] w fun e w' => e = .returned (.tuple #[]) ∧ Buf w' bb lb v k ∧ Own bb lb w w' := by
  have H := Go.Lib.hid h
  obtain ⟨c0, c1, c2, hc3, hc4, t, f, g, lt, sz⟩ := h
  have h01 : (0 : Int) < ((1 : Nat) : Int) := by omega
  have hl : lb < w.heap.size := by omega
  clear hc3 hc4 f
  go_enter Tryd.func43, Tryd.ntmps43
  go_wp2_with fail
  go_region
  all_goals go_wp2_with fail
  all_goals go_returns
  all_goals first | exact ⟨rfl, H.out.drew.text v, (Own.refl _ _ _).drew.setL _ _⟩ | exact ⟨rfl, (H.out.text v).drew, ((Own.refl _ _ _).setL _ _).drew⟩

theorem set_cursor (bb lb : Nat) (s : ByteArray) (k m : Nat) (w : World) (h : Buf w bb lb s k) :
    Calls Tryd.prog 42 #[.pointer (some ⟨bb, 0, none⟩), .int .i64 (m : Nat)] w fun e w' => e = .returned (.tuple #[]) ∧ w' = w.setCell ⟨bb, 2, none⟩ (.int .i64 (m : Nat)) := by
  obtain ⟨c0, c1, c2, hc3, hc4, t, f, g, lt, sz⟩ := h
  have f2 := f 2
  clear hc3 hc4 f
  by_cases hm : (0 : Int) < m
  · go_enter Tryd.func42, Tryd.ntmps42
    go_wp2_with fail
    go_returns
    exact ⟨rfl, rfl⟩
  · obtain rfl : m = 0 := by omega
    go_enter Tryd.func42, Tryd.ntmps42
    go_wp2_with fail
    go_returns
    exact ⟨rfl, rfl⟩

theorem set_document (bb lb d : Nat) (s v : ByteArray) (k m : Nat) (w : World) (h : Buf w bb lb s k) (hd : DocAt w d v m) (hdb : DocBlock w d) (n1 : d ≠ bb) (n2 : d ≠ lb) :
    Calls Tryd.prog 28 #[.pointer (some ⟨bb, 0, none⟩), .pointer (some ⟨d, 0, none⟩)] w fun e w' => e = .returned (.tuple #[]) ∧ Buf w' bb lb v m ∧ Own bb lb w w' := by
  have H := Go.Lib.hid h
  have HD := Go.Lib.hid hd
  obtain ⟨c0, c1, c2, ⟨c, c3, _⟩, hc4, t, f, g, lt, sz⟩ := h
  have f3 := f 3
  have N1 := Go.Lib.hid n1
  have N2 := Go.Lib.hid n2
  obtain ⟨d0, d1, dsz⟩ := hd
  have W1 : Hid (Buf (w.setCell ⟨bb, 3, none⟩ (.pointer (some ⟨d, 0, none⟩))) bb lb s k ∧ DocAt (w.setCell ⟨bb, 3, none⟩ (.pointer (some ⟨d, 0, none⟩))) d v m) := ⟨H.out.cache d v m HD.out hdb n1 n2, HD.out.other _ _ (fun e => n1 e.symm)⟩
  have n1' : ¬ bb = d := fun e => n1 e.symm
  clear hc4 f hdb
  go_enter Tryd.func28, Tryd.ntmps28
  go_wp2_with fail
  refine (set_cursor bb lb s k m _ W1.out.1).mono ?_
  rintro e w1 ⟨rfl, rfl⟩
  have W2 : Hid (Buf ((w.setCell ⟨bb, 3, none⟩ (.pointer (some ⟨d, 0, none⟩))).setCell ⟨bb, 2, none⟩ (.int .i64 (m : Nat))) bb lb s m) := W1.out.1.cursor m
  go_wp2_with fail
  refine (set_text bb lb s v m _ W2.out).mono ?_
  rintro e w1 ⟨rfl, hB, b1⟩
  have HB := Go.Lib.hid hB
  clear hB
  go_wp2_with fail
  go_returns
  exact ⟨rfl, HB.out, (((Own.refl _ _ _).setB _ _).setB _ _).trans b1⟩

theorem new_buffer (w : World) :
    Calls Tryd.prog 27 #[] w fun e w' => e = .returned (.pointer (some ⟨w.heap.size + 1, 0, none⟩)) ∧ Buf w' (w.heap.size + 1) w.heap.size ⟨#[]⟩ 0 ∧ Below w.heap.size w w' ∧ w'.heap.size = w.heap.size + 2 := by
  go_enter Tryd.func27, Tryd.ntmps27
  go_wp2_with fail
  go_returns
  refine ⟨rfl, ⟨by simp [go_sem], by simp [go_sem], by simp [go_sem], ⟨none, by simp [go_sem], .inl rfl⟩, ⟨-1, by simp [go_sem]⟩, by simp [go_sem], fun j => by simp [go_sem], by simp [go_sem], by omega, by simp⟩, by go_grown, by simp⟩

theorem buffer_at (s : ByteArray) (k : Nat) (w : World) :
    Calls Tryd.prog 19 #[.string s, .int .i64 (k : Nat)] w fun e w' => e = .returned (.pointer (some ⟨w.heap.size + 1, 0, none⟩)) ∧ Buf w' (w.heap.size + 1) w.heap.size s k ∧ Below w.heap.size w w' := by
  go_enter Tryd.func19, Tryd.ntmps19
  go_wp2_with fail
  refine (new_buffer w).mono ?_
  rintro e w1 ⟨rfl, hB, b1, hz⟩
  have HB := Go.Lib.hid hB
  have HZ := Go.Lib.hid hz
  clear hB hz
  go_wp2_with fail
  refine (document_at s (k : Int) _).mono ?_
  rintro e w2 ⟨rfl, rfl⟩
  have hz2 := HZ.out
  have HD : Hid (Buf (w1.alloc (.cells #[.string s, .int .i64 (k : Nat)] 50)) (w.heap.size + 1) w.heap.size ⟨#[]⟩ 0 ∧ DocAt (w1.alloc (.cells #[.string s, .int .i64 (k : Nat)] 50)) w1.heap.size s k) :=
    ⟨HB.out.below ((Below.refl _ _).alloc (Nat.le_refl _) _), ⟨by simp [go_sem], by simp [go_sem], by simp⟩⟩
  clear hz2
  go_wp2_with fail
  refine (set_document (w.heap.size + 1) w.heap.size w1.heap.size ⟨#[]⟩ s 0 k _ HD.out.1 HD.out.2 (DocBlock.new _ _) (by have := HZ.out; omega) (by have := HZ.out; omega)).mono ?_
  rintro e w2 ⟨rfl, hB2, b2⟩
  have HB2 := Go.Lib.hid hB2
  clear hB2
  go_wp2_with fail
  go_returns
  exact ⟨rfl, HB2.out, (b1.alloc b1.size _).trans (b2.below (by omega) (by have := b1.size; simp; omega))⟩
end Go.Proofs.YtedjjimabchffaaDoor
