/- The contracts of impl.MessageRead: a whole message is one, what is cut off is none. -/
import Derived.Test.YtkljpbpojbhbbaaMessageFull
namespace Go.Proofs.Ytkljpbpojbhbbaa
open Go.RowKit
set_option linter.unusedVariables false
set_option linter.unusedSimpArgs false

/-- What the callee is handed: the text's bytes in memory. -/
def Bytes (W : World) (g cap : Nat) (s : ByteArray) : Prop := s.size ≤ cap ∧ cap ≤ 9223372036854775807 ∧ ∀ j, j < s.size → W.cell? ⟨g, j, none⟩ = some (.int .u8 (byteAt s j))

theorem bcell {W w1 : World} {B : Nat} (hb : Below B W w1) : (∀ b o, b < B → w1.cell? ⟨b, o, none⟩ = W.cell? ⟨b, o, none⟩) ∧ (∀ b o, b < B → w1.frozen? ⟨b, o, none⟩ = W.frozen? ⟨b, o, none⟩) :=
  ⟨fun b o h => hb.cell (p := ⟨b, o, none⟩) h, fun b o h => hb.frozen (p := ⟨b, o, none⟩) h⟩

def ErrCl (p1 p2 p3 : Addr) (w : World) (e : Ending) (w' : World) : Prop :=
  ∃ W' p, e = .returned (.tuple #[]) ∧ Below w.heap.size w W' ∧ w' = ((W'.setCell p1 (.pointer none)).setCell p2 (.slice none 0 0)).setCell p3 (.iface 61 p)

theorem closure_err (s : ByteArray) (b : Nat) (v1 v2 v3 : Value) (w : World) (hs : s.size ≤ maxLen)
    (c0 : w.cell? ⟨b, 0, none⟩ = some (.string s)) (c1 : w.cell? ⟨b + 1, 0, none⟩ = some v1) (c2 : w.cell? ⟨b + 1 + 1, 0, none⟩ = some v2) (c3 : w.cell? ⟨b + 1 + 1 + 1, 0, none⟩ = some v3)
    (f1 : w.frozen? ⟨b + 1, 0, none⟩ = false) (f2 : w.frozen? ⟨b + 1 + 1, 0, none⟩ = false) (f3 : w.frozen? ⟨b + 1 + 1 + 1, 0, none⟩ = false)
    (h : ∀ g cap W, Bytes W g cap s → Calls Try.prog 23 #[.slice (some ⟨g, 0, none⟩) s.size cap] W (ErrPost W)) :
    Calls Try.prog 22 #[.pointer (some ⟨b, 0, none⟩), .pointer (some ⟨b + 1, 0, none⟩), .pointer (some ⟨b + 1 + 1, 0, none⟩), .pointer (some ⟨b + 1 + 1 + 1, 0, none⟩)] w (ErrCl ⟨b + 1, 0, none⟩ ⟨b + 1 + 1, 0, none⟩ ⟨b + 1 + 1 + 1, 0, none⟩ w) := by
  have hk := fun w => run_bytes_of_string (P := Try.prog) w 9 44 5 s Try.underlying9 Try.underlying44 Try.underlying5
  have H := Go.Lib.hid h
  clear h
  have l3 := lt_of_cell c3
  go_enter Try.func22, Try.ntmps22
  go_wp2_with fail
  refine (H.out _ _ _ ⟨grownCap_ge _ _ _ _, ?_, ?_⟩).mono ?_
  · have := grownCap_le_maxLen w s.size 0 5 hs
    unfold maxLen at this; exact this
  · intro j hj
    simp [World.cell?_alloc_mark, bytesRow_byte s _ j hj]
  rintro e w1 ⟨p, rfl, hb⟩
  have hb' : Below w.heap.size w w1 := ((Below.refl _ w).drew.alloc (Nat.le_refl _) _).trans (hb.mono (by simp))
  clear hb
  have c1' : w1.cell? ⟨b + 1, 0, none⟩ = some v1 := (hb'.cell (p := ⟨b + 1, 0, none⟩) (show b + 1 < _ by omega)).trans c1
  have c2' : w1.cell? ⟨b + 1 + 1, 0, none⟩ = some v2 := (hb'.cell (p := ⟨b + 1 + 1, 0, none⟩) (show b + 1 + 1 < _ by omega)).trans c2
  have c3' : w1.cell? ⟨b + 1 + 1 + 1, 0, none⟩ = some v3 := (hb'.cell (p := ⟨b + 1 + 1 + 1, 0, none⟩) (show b + 1 + 1 + 1 < _ by omega)).trans c3
  have f1' : w1.frozen? ⟨b + 1, 0, none⟩ = false := (hb'.frozen (p := ⟨b + 1, 0, none⟩) (show b + 1 < _ by omega)).trans f1
  have f2' : w1.frozen? ⟨b + 1 + 1, 0, none⟩ = false := (hb'.frozen (p := ⟨b + 1 + 1, 0, none⟩) (show b + 1 + 1 < _ by omega)).trans f2
  have f3' : w1.frozen? ⟨b + 1 + 1 + 1, 0, none⟩ = false := (hb'.frozen (p := ⟨b + 1 + 1 + 1, 0, none⟩) (show b + 1 + 1 + 1 < _ by omega)).trans f3
  clear c0 c1 c2 c3 f1 f2 f3 hk
  go_wp2_with fail
  go_returns
  exact ⟨w1, p, rfl, hb', rfl⟩

def FullCl (p1 p2 p3 : Addr) (w : World) (e : Ending) (w' : World) : Prop :=
  ∃ (W' : World) (m : Nat) (k : Int) (d dl : Nat) (A : Option Addr) (c : Nat), e = .returned (.tuple #[]) ∧ Below w.heap.size w W' ∧ w.heap.size ≤ m ∧ w' = ((W'.setCell p1 (.pointer (some ⟨m, 0, none⟩))).setCell p2 (.slice A 0 c)).setCell p3 .nilIface ∧
    W'.cell? ⟨m, 0, none⟩ = some (.int .i16 k) ∧ (-32768 ≤ k ∧ k ≤ 32767) ∧ W'.cell? ⟨m, 1, none⟩ = some (.slice (some ⟨d, 0, none⟩) dl dl) ∧ dl ≤ 1000 ∧ w.heap.size ≤ d ∧ ∀ j, j < dl → ∃ x : Nat, x < 256 ∧ W'.cell? ⟨d, j, none⟩ = some (.int .u8 x)

theorem closure_full (s : ByteArray) (b : Nat) (v1 v2 v3 : Value) (w : World) (hs : s.size ≤ maxLen)
    (c0 : w.cell? ⟨b, 0, none⟩ = some (.string s)) (c1 : w.cell? ⟨b + 1, 0, none⟩ = some v1) (c2 : w.cell? ⟨b + 1 + 1, 0, none⟩ = some v2) (c3 : w.cell? ⟨b + 1 + 1 + 1, 0, none⟩ = some v3)
    (f1 : w.frozen? ⟨b + 1, 0, none⟩ = false) (f2 : w.frozen? ⟨b + 1 + 1, 0, none⟩ = false) (f3 : w.frozen? ⟨b + 1 + 1 + 1, 0, none⟩ = false)
    (h : ∀ g cap W, Bytes W g cap s → Calls Try.prog 23 #[.slice (some ⟨g, 0, none⟩) s.size cap] W (FullPost W)) :
    Calls Try.prog 22 #[.pointer (some ⟨b, 0, none⟩), .pointer (some ⟨b + 1, 0, none⟩), .pointer (some ⟨b + 1 + 1, 0, none⟩), .pointer (some ⟨b + 1 + 1 + 1, 0, none⟩)] w (FullCl ⟨b + 1, 0, none⟩ ⟨b + 1 + 1, 0, none⟩ ⟨b + 1 + 1 + 1, 0, none⟩ w) := by
  have hk := fun w => run_bytes_of_string (P := Try.prog) w 9 44 5 s Try.underlying9 Try.underlying44 Try.underlying5
  have H := Go.Lib.hid h
  clear h
  have l3 := lt_of_cell c3
  go_enter Try.func22, Try.ntmps22
  go_wp2_with fail
  refine (H.out _ _ _ ⟨grownCap_ge _ _ _ _, ?_, ?_⟩).mono ?_
  · have := grownCap_le_maxLen w s.size 0 5 hs
    unfold maxLen at this; exact this
  · intro j hj
    simp [World.cell?_alloc_mark, bytesRow_byte s _ j hj]
  rintro e w1 ⟨kk, d, dl, A, c, rfl, hb, hsz, hm0, hkk, hm1, hdl, hdd, hdc⟩
  have HDC := Go.Lib.hid hdc
  clear hdc
  have hb' : Below w.heap.size w w1 := ((Below.refl _ w).drew.alloc (Nat.le_refl _) _).trans (hb.mono (by simp))
  clear hb
  have c1' : w1.cell? ⟨b + 1, 0, none⟩ = some v1 := (hb'.cell (p := ⟨b + 1, 0, none⟩) (show b + 1 < _ by omega)).trans c1
  have c2' : w1.cell? ⟨b + 1 + 1, 0, none⟩ = some v2 := (hb'.cell (p := ⟨b + 1 + 1, 0, none⟩) (show b + 1 + 1 < _ by omega)).trans c2
  have c3' : w1.cell? ⟨b + 1 + 1 + 1, 0, none⟩ = some v3 := (hb'.cell (p := ⟨b + 1 + 1 + 1, 0, none⟩) (show b + 1 + 1 + 1 < _ by omega)).trans c3
  have f1' : w1.frozen? ⟨b + 1, 0, none⟩ = false := (hb'.frozen (p := ⟨b + 1, 0, none⟩) (show b + 1 < _ by omega)).trans f1
  have f2' : w1.frozen? ⟨b + 1 + 1, 0, none⟩ = false := (hb'.frozen (p := ⟨b + 1 + 1, 0, none⟩) (show b + 1 + 1 < _ by omega)).trans f2
  have f3' : w1.frozen? ⟨b + 1 + 1 + 1, 0, none⟩ = false := (hb'.frozen (p := ⟨b + 1 + 1 + 1, 0, none⟩) (show b + 1 + 1 + 1 < _ by omega)).trans f3
  clear c0 c1 c2 c3 f1 f2 f3 hk
  go_wp2_with fail
  go_returns
  exact ⟨w1, w.heap.size + 1, kk, d, dl, A, c, rfl, hb', by omega, rfl, by simpa using hm0, hkk, by simpa using hm1, hdl, by simp at hdd; omega, HDC.out⟩

/-- What lies ahead of the call of the closure: the text, and three variables one behind the other. -/
structure Vars (W : World) (b : Nat) (s : ByteArray) (v1 v2 v3 : Value) : Prop where
  c0 : W.cell? ⟨b, 0, none⟩ = some (.string s)
  c1 : W.cell? ⟨b + 1, 0, none⟩ = some v1
  c2 : W.cell? ⟨b + 1 + 1, 0, none⟩ = some v2
  c3 : W.cell? ⟨b + 1 + 1 + 1, 0, none⟩ = some v3
  f1 : W.frozen? ⟨b + 1, 0, none⟩ = false
  f2 : W.frozen? ⟨b + 1 + 1, 0, none⟩ = false
  f3 : W.frozen? ⟨b + 1 + 1 + 1, 0, none⟩ = false

theorem Vars.alloc {W : World} {b : Nat} {s : ByteArray} {v1 v2 v3 : Value} (h : Vars W b s v1 v2 v3) (o : Obj) : Vars (W.alloc o) b s v1 v2 v3 := by
  have l3 := lt_of_cell h.c3
  have l2 := lt_of_cell h.c2
  have l1 := lt_of_cell h.c1
  have l0 := lt_of_cell h.c0
  exact ⟨(World.cell?_alloc_past _ _ _ l0).trans h.c0, (World.cell?_alloc_past _ _ _ l1).trans h.c1, (World.cell?_alloc_past _ _ _ l2).trans h.c2, (World.cell?_alloc_past _ _ _ l3).trans h.c3,
    by simpa [go_sem, l1] using h.f1, by simpa [go_sem, l2] using h.f2, by simpa [go_sem, l3] using h.f3⟩

theorem three_other (W : World) (b n : Nat) (x1 x2 x3 : Value) (h : b + 1 + 1 + 1 < n) : (((W.setCell ⟨b + 1, 0, none⟩ x1).setCell ⟨b + 1 + 1, 0, none⟩ x2).setCell ⟨b + 1 + 1 + 1, 0, none⟩ x3).heap[n]? = W.heap[n]? := by
  rw [Below.heap_setCell _ _ _ _ (show n ≠ b + 1 + 1 + 1 by omega), Below.heap_setCell _ _ _ _ (show n ≠ b + 1 + 1 by omega), Below.heap_setCell _ _ _ _ (show n ≠ b + 1 by omega)]

theorem caught_err (s : ByteArray) (b : Nat) (v1 v2 v3 : Value) (W : World) (hs : s.size ≤ maxLen) (hv : Vars W b s v1 v2 v3)
    (h : ∀ g cap W, Bytes W g cap s → Calls Try.prog 23 #[.slice (some ⟨g, 0, none⟩) s.size cap] W (ErrPost W)) :
    Calls Try.prog 19 #[.func (.func 22) #[] #[.pointer (some ⟨b, 0, none⟩), .pointer (some ⟨b + 1, 0, none⟩), .pointer (some ⟨b + 1 + 1, 0, none⟩), .pointer (some ⟨b + 1 + 1 + 1, 0, none⟩)]] W fun e w' =>
      ∃ p, e = .returned (.bool true) ∧ Below b W w' ∧ w'.cell? ⟨b + 1 + 1 + 1, 0, none⟩ = some (.iface 61 p) := by
  have eg : Enters Try.prog 22 := enters_of Try.func22 (by kernel_rfl) rfl
  have l3 := lt_of_cell hv.c3
  have hv' := hv.alloc (.cells #[.bool false] 4)
  refine (caught_ret 22 _ W (fun w1 => ErrCl ⟨b + 1, 0, none⟩ ⟨b + 1 + 1, 0, none⟩ ⟨b + 1 + 1 + 1, 0, none⟩ (W.alloc (.cells #[.bool false] 4)) (.returned (.tuple #[])) w1) eg ?_).mono ?_
  · refine (closure_err s b v1 v2 v3 _ hs hv'.c0 hv'.c1 hv'.c2 hv'.c3 hv'.f1 hv'.f2 hv'.f3 h).mono ?_
    rintro e w1 ⟨W', p, rfl, hb, rfl⟩
    have hh := (three_other W' b W.heap.size (.pointer none) (.slice none 0 0) (.iface 61 p) l3).trans (hb.block W.heap.size (by simp))
    refine ⟨rfl, ⟨W', p, rfl, hb, rfl⟩, ?_, ?_⟩
    · exact (World.cell?_of_block hh).trans (by simp)
    · exact (World.frozen?_of_block hh).trans (by simp)
  rintro e w1 ⟨rfl, w2, ⟨W', p, _, hb, rfl⟩, rfl⟩
  have hb' : Below W.heap.size W W' := ((Below.refl _ _).alloc (Nat.le_refl _) _).trans (hb.mono (by simp))
  have h3 : W'.cell? ⟨b + 1 + 1 + 1, 0, none⟩ = some v3 := (hb'.cell (p := ⟨b + 1 + 1 + 1, 0, none⟩) l3).trans hv.c3
  refine ⟨p, rfl, ((((hb'.mono (by omega)).setCell (show b ≤ b + 1 by omega) _).setCell (show b ≤ b + 1 + 1 by omega) _).setCell (show b ≤ b + 1 + 1 + 1 by omega) _).setCell (show b ≤ W.heap.size by omega) _, ?_⟩
  rw [World.cell?_setCell_other _ _ _ _ (by intro e; have := congrArg Addr.block e; simp at this; omega), World.cell?_setCell_same' _ _ _ ?_]
  rw [World.cell?_setCell_other _ _ _ _ (by simp), World.cell?_setCell_other _ _ _ _ (by simp), h3]; rfl

/-- What a whole message leaves: its data can be read, and nothing is left. -/
structure Full (b : Nat) (w' : World) (m : Nat) (k : Int) (d dl : Nat) (A : Option Addr) (c : Nat) : Prop where
  p1 : w'.cell? ⟨b + 1, 0, none⟩ = some (.pointer (some ⟨m, 0, none⟩))
  p2 : w'.cell? ⟨b + 1 + 1, 0, none⟩ = some (.slice A 0 c)
  p3 : w'.cell? ⟨b + 1 + 1 + 1, 0, none⟩ = some .nilIface
  m0 : w'.cell? ⟨m, 0, none⟩ = some (.int .i16 k)
  hk : -32768 ≤ k ∧ k ≤ 32767
  m1 : w'.cell? ⟨m, 1, none⟩ = some (.slice (some ⟨d, 0, none⟩) dl dl)
  hd : dl ≤ 1000
  dc : ∀ j, j < dl → ∃ x : Nat, x < 256 ∧ w'.cell? ⟨d, j, none⟩ = some (.int .u8 x)

theorem caught_full (s : ByteArray) (b : Nat) (v1 v2 v3 : Value) (W : World) (hs : s.size ≤ maxLen) (hv : Vars W b s v1 v2 v3)
    (h : ∀ g cap W, Bytes W g cap s → Calls Try.prog 23 #[.slice (some ⟨g, 0, none⟩) s.size cap] W (FullPost W)) :
    Calls Try.prog 19 #[.func (.func 22) #[] #[.pointer (some ⟨b, 0, none⟩), .pointer (some ⟨b + 1, 0, none⟩), .pointer (some ⟨b + 1 + 1, 0, none⟩), .pointer (some ⟨b + 1 + 1 + 1, 0, none⟩)]] W fun e w' =>
      ∃ m k d dl A c, e = .returned (.bool true) ∧ Below b W w' ∧ Full b w' m k d dl A c := by
  have eg : Enters Try.prog 22 := enters_of Try.func22 (by kernel_rfl) rfl
  have l3 := lt_of_cell hv.c3
  have hv' := hv.alloc (.cells #[.bool false] 4)
  refine (caught_ret 22 _ W (fun w1 => FullCl ⟨b + 1, 0, none⟩ ⟨b + 1 + 1, 0, none⟩ ⟨b + 1 + 1 + 1, 0, none⟩ (W.alloc (.cells #[.bool false] 4)) (.returned (.tuple #[])) w1) eg ?_).mono ?_
  · refine (closure_full s b v1 v2 v3 _ hs hv'.c0 hv'.c1 hv'.c2 hv'.c3 hv'.f1 hv'.f2 hv'.f3 h).mono ?_
    rintro e w1 ⟨W', m, k, d, dl, A, c, rfl, hb, hm, rfl, hr⟩
    have hh := (three_other W' b W.heap.size (.pointer (some ⟨m, 0, none⟩)) (.slice A 0 c) .nilIface l3).trans (hb.block W.heap.size (by simp))
    refine ⟨rfl, ⟨W', m, k, d, dl, A, c, rfl, hb, hm, rfl, hr⟩, ?_, ?_⟩
    · exact (World.cell?_of_block hh).trans (by simp)
    · exact (World.frozen?_of_block hh).trans (by simp)
  rintro e w1 ⟨rfl, w2, ⟨W', m, k, d, dl, A, c, _, hb, hm, rfl, r1, r2, r3, r4, r6, r5⟩, rfl⟩
  have hb' : Below W.heap.size W W' := ((Below.refl _ _).alloc (Nat.le_refl _) _).trans (hb.mono (by simp))
  simp at hm r6
  have h1 : W'.cell? ⟨b + 1, 0, none⟩ = some v1 := (hb'.cell (p := ⟨b + 1, 0, none⟩) (show b + 1 < _ by omega)).trans hv.c1
  have h2 : W'.cell? ⟨b + 1 + 1, 0, none⟩ = some v2 := (hb'.cell (p := ⟨b + 1 + 1, 0, none⟩) (show b + 1 + 1 < _ by omega)).trans hv.c2
  have h3 : W'.cell? ⟨b + 1 + 1 + 1, 0, none⟩ = some v3 := (hb'.cell (p := ⟨b + 1 + 1 + 1, 0, none⟩) l3).trans hv.c3
  have hfar : ∀ n o, W.heap.size < n → ((((W'.setCell ⟨b + 1, 0, none⟩ (.pointer (some ⟨m, 0, none⟩))).setCell ⟨b + 1 + 1, 0, none⟩ (.slice A 0 c)).setCell ⟨b + 1 + 1 + 1, 0, none⟩ .nilIface).setCell ⟨W.heap.size, 0, none⟩ (.bool true)).cell? ⟨n, o, none⟩ = W'.cell? ⟨n, o, none⟩ := fun n o hn =>
    World.cell?_of_block ((Below.heap_setCell _ _ _ _ (show n ≠ W.heap.size by omega)).trans (three_other W' b n _ _ _ (by omega)))
  refine ⟨m, k, d, dl, A, c, rfl, ((((hb'.mono (by omega)).setCell (show b ≤ b + 1 by omega) _).setCell (show b ≤ b + 1 + 1 by omega) _).setCell (show b ≤ b + 1 + 1 + 1 by omega) _).setCell (show b ≤ W.heap.size by omega) _, ?_, ?_, ?_, (hfar m 0 (by omega)).trans r1, r2, (hfar m 1 (by omega)).trans r3, r4, fun j hj => ?_⟩
  · rw [World.cell?_setCell_other _ _ _ _ (by intro e; have := congrArg Addr.block e; simp at this; omega), World.cell?_setCell_other _ _ _ _ (by simp), World.cell?_setCell_other _ _ _ _ (by simp), World.cell?_setCell_same' _ _ _ (by rw [h1]; rfl)]
  · rw [World.cell?_setCell_other _ _ _ _ (by intro e; have := congrArg Addr.block e; simp at this; omega), World.cell?_setCell_other _ _ _ _ (by simp), World.cell?_setCell_same' _ _ _ (by rw [World.cell?_setCell_other _ _ _ _ (by simp), h2]; rfl)]
  · rw [World.cell?_setCell_other _ _ _ _ (by intro e; have := congrArg Addr.block e; simp at this; omega), World.cell?_setCell_same' _ _ _ (by rw [World.cell?_setCell_other _ _ _ _ (by simp), World.cell?_setCell_other _ _ _ _ (by simp), h3]; rfl)]
  · obtain ⟨x, hx, hc⟩ := r5 j hj
    exact ⟨x, hx, (hfar d j (by omega)).trans hc⟩
end Go.Proofs.Ytkljpbpojbhbbaa
