/- A manager of suggestions: what it holds, what its steps do. -/
import Derived.Test.YtmjgcfghejjleaaWords
import Derived.Test.YtmjgcfghejjleaaQuietTail
import Derived.Test.YtmjgcfghejjleaaHeldTail
import Derived.Deep.AppendLies
import Derived.WalkSmall
namespace Go.Proofs.Ytmjgcfghejjleaa
open Go.RowKit
set_option linter.unusedVariables false
set_option linter.unusedSimpArgs false

/-- A manager in block cb; ib: where its suggestions stand. -/
structure CM (w : World) (cb ib : Nat) (A : Option Addr) (n m : Nat) (sel frm : Int) (t : Value) : Prop where
  c0 : w.cell? ⟨cb, 0, none⟩ = some (.int .i64 sel)
  c1 : w.cell? ⟨cb, 1, none⟩ = some t
  c2 : w.cell? ⟨cb, 2, none⟩ = some (.int .u16 (m : Nat))
  c3 : w.cell? ⟨cb, 3, none⟩ = some (.func (.func 13) #[] #[.pointer (some ⟨ib, 0, none⟩)])
  c4 : w.cell? ⟨cb, 4, none⟩ = some (.int .i64 frm)
  ci : w.cell? ⟨ib, 0, none⟩ = some (.slice A n n)
  f : ∀ j, w.frozen? ⟨cb, j, none⟩ = false
  cs : cb < w.heap.size
  is : ib < w.heap.size
  ne : ib ≠ cb

/-- All but one block is as it was. -/
structure OwnC (cb : Nat) (w w' : World) : Prop where
  os : w'.os = w.os
  tape : w'.tape = w.tape
  output : w'.output = w.output
  size : w.heap.size ≤ w'.heap.size
  rest : ∀ k, k < w.heap.size → k ≠ cb → w'.heap[k]? = w.heap[k]?
theorem OwnC.refl (cb : Nat) (w : World) : OwnC cb w w := ⟨rfl, rfl, rfl, Nat.le_refl _, fun _ _ _ => rfl⟩
theorem OwnC.trans {cb : Nat} {a b c : World} (h : OwnC cb a b) (k : OwnC cb b c) : OwnC cb a c :=
  ⟨k.os.trans h.os, k.tape.trans h.tape, k.output.trans h.output, Nat.le_trans h.size k.size, fun i hi h1 => (k.rest i (Nat.lt_of_lt_of_le hi h.size) h1).trans (h.rest i hi h1)⟩
theorem OwnC.of {cb : Nat} {w w' : World} (h : Below w.heap.size w w') : OwnC cb w w' := ⟨h.os, h.tape, h.output, h.size, fun k hk _ => h.block k hk⟩
theorem OwnC.after {cb : Nat} {a b c : World} (h : OwnC cb a b) (k : Below b.heap.size b c) : OwnC cb a c := h.trans (.of k)
theorem OwnC.drewN {cb : Nat} {a w : World} (h : OwnC cb a w) (n : Nat) : OwnC cb a (w.drewN n) := h.after (below_drewN (Below.refl _ _) _)
theorem OwnC.set {cb : Nat} {a w : World} (h : OwnC cb a w) (o : Nat) (u : Value) : OwnC cb a (w.setCell ⟨cb, o, none⟩ u) :=
  h.trans ⟨rfl, rfl, rfl, by simp [World.setCell], fun k _ h1 => Below.heap_setCell _ _ _ _ h1⟩
theorem OwnC.below {cb : Nat} {w w' : World} (h : OwnC cb w w') {B : Nat} (hB : B ≤ cb) (hz : B ≤ w.heap.size) : Below B w w' :=
  ⟨h.os, h.tape, h.output, h.size, fun k hk => h.rest k (by omega) (by omega)⟩

theorem CM.below {w w' : World} {cb ib : Nat} {A : Option Addr} {n m : Nat} {sel frm : Int} {t : Value} (h : CM w cb ib A n m sel frm t) (b : Below w.heap.size w w') : CM w' cb ib A n m sel frm t :=
  ⟨(b.cell (p := ⟨cb, 0, none⟩) h.cs).trans h.c0, (b.cell (p := ⟨cb, 1, none⟩) h.cs).trans h.c1, (b.cell (p := ⟨cb, 2, none⟩) h.cs).trans h.c2, (b.cell (p := ⟨cb, 3, none⟩) h.cs).trans h.c3, (b.cell (p := ⟨cb, 4, none⟩) h.cs).trans h.c4, (b.cell (p := ⟨ib, 0, none⟩) h.is).trans h.ci, fun j => (b.frozen (p := ⟨cb, j, none⟩) h.cs).trans (h.f j), Nat.lt_of_lt_of_le h.cs b.size, Nat.lt_of_lt_of_le h.is b.size, h.ne⟩
theorem CM.drewN {w : World} {cb ib : Nat} {A : Option Addr} {n m : Nat} {sel frm : Int} {t : Value} (h : CM w cb ib A n m sel frm t) (q : Nat) : CM (w.drewN q) cb ib A n m sel frm t := h.below (below_drewN (Below.refl _ _) _)

theorem other_cell (w : World) (cb i j : Nat) (u : Value) (h : i ≠ j) : (w.setCell ⟨cb, j, none⟩ u).cell? ⟨cb, i, none⟩ = w.cell? ⟨cb, i, none⟩ :=
  World.cell?_setCell_other _ _ _ _ (by intro e; have := congrArg Addr.off e; simp at this; omega)
theorem other_block (w : World) (cb ib i j : Nat) (u : Value) (h : ib ≠ cb) : (w.setCell ⟨cb, j, none⟩ u).cell? ⟨ib, i, none⟩ = w.cell? ⟨ib, i, none⟩ :=
  World.cell?_setCell_other _ _ _ _ (by intro e; have := congrArg Addr.block e; simp at this; omega)

theorem CM.sel {w : World} {cb ib : Nat} {A : Option Addr} {n m : Nat} {sel frm : Int} {t : Value} (h : CM w cb ib A n m sel frm t) (x : Int) : CM (w.setCell ⟨cb, 0, none⟩ (.int .i64 x)) cb ib A n m x frm t :=
  ⟨World.cell?_setCell_same' _ _ _ (by rw [h.c0]; rfl), (other_cell _ _ _ _ _ (by omega)).trans h.c1, (other_cell _ _ _ _ _ (by omega)).trans h.c2, (other_cell _ _ _ _ _ (by omega)).trans h.c3, (other_cell _ _ _ _ _ (by omega)).trans h.c4, (other_block _ _ _ _ _ _ h.ne).trans h.ci, fun j => by rw [World.frozen?_setCell]; exact h.f j, by simpa [World.setCell] using h.cs, by simpa [World.setCell] using h.is, h.ne⟩
theorem CM.frm {w : World} {cb ib : Nat} {A : Option Addr} {n m : Nat} {sel frm : Int} {t : Value} (h : CM w cb ib A n m sel frm t) (x : Int) : CM (w.setCell ⟨cb, 4, none⟩ (.int .i64 x)) cb ib A n m sel x t :=
  ⟨(other_cell _ _ _ _ _ (by omega)).trans h.c0, (other_cell _ _ _ _ _ (by omega)).trans h.c1, (other_cell _ _ _ _ _ (by omega)).trans h.c2, (other_cell _ _ _ _ _ (by omega)).trans h.c3, World.cell?_setCell_same' _ _ _ (by rw [h.c4]; rfl), (other_block _ _ _ _ _ _ h.ne).trans h.ci, fun j => by rw [World.frozen?_setCell]; exact h.f j, by simpa [World.setCell] using h.cs, by simpa [World.setCell] using h.is, h.ne⟩
theorem CM.tmp {w : World} {cb ib : Nat} {A : Option Addr} {n m : Nat} {sel frm : Int} {t : Value} (h : CM w cb ib A n m sel frm t) (x : Value) (hx : x.oneCell' = true) : CM (w.setCell ⟨cb, 1, none⟩ x) cb ib A n m sel frm x :=
  ⟨(other_cell _ _ _ _ _ (by omega)).trans h.c0, World.cell?_setCell_same' _ _ _ (by rw [h.c1]; rfl), (other_cell _ _ _ _ _ (by omega)).trans h.c2, (other_cell _ _ _ _ _ (by omega)).trans h.c3, (other_cell _ _ _ _ _ (by omega)).trans h.c4, (other_block _ _ _ _ _ _ h.ne).trans h.ci, fun j => by rw [World.frozen?_setCell]; exact h.f j, by simpa [World.setCell] using h.cs, by simpa [World.setCell] using h.is, h.ne⟩

theorem given_any (ib : Nat) (v d : Value) (x : ByteArray) (y : Int) (w : World) (h : w.cell? ⟨ib, 0, none⟩ = some v) (hs : ib < w.heap.size) (A : Option Addr) (n : Nat) (hv : v = .slice A n n) :
    Calls Try.prog 13 #[.agg #[.string x, .int .i64 y], .pointer (some ⟨ib, 0, none⟩)] w fun e w' => e = .returned (.slice A n n) ∧ Below w.heap.size w w' := by
  subst hv
  have hne : ¬ ib = w.heap.size := by omega
  go_enter Try.func13, Try.ntmps13
  go_wp2_with fail
  go_returns
  exact ⟨rfl, (Below.refl _ _).alloc (Nat.le_refl _) _⟩

theorem new_document (w : World) : Calls Try.prog 18 #[] w fun e w' => e = .returned (.pointer (some ⟨w.heap.size, 0, none⟩)) ∧ w' = w.alloc (.cells #[.string ⟨#[]⟩, .int .i64 0] 37) := by
  go_enter Try.func18, Try.ntmps18
  go_wp2_with fail
  go_returns
  exact ⟨rfl, rfl⟩

theorem update_doc (cb ib : Nat) (A : Option Addr) (n m : Nat) (sel frm : Int) (t : Value) (x : ByteArray) (y : Int) (w : World) (h : CM w cb ib A n m sel frm t) :
    Calls Try.prog 17 #[.pointer (some ⟨cb, 0, none⟩), .agg #[.string x, .int .i64 y]] w fun e w' => e = .returned (.tuple #[]) ∧ (CM w' cb ib A n m sel frm (.slice A n n) ∧ OwnC cb w w') := by
  have eg : ∀ args w, (callFunc 13 args).run Try.prog w = .ok (.enter 13 args) w := fun _ _ => by kernel_rfl
  have H := Go.Lib.hid h
  have hne : ¬ cb = w.heap.size := by have := h.cs; omega
  have c3 := h.c3
  have cs := h.cs
  clear h
  go_enter Try.func17, Try.ntmps17
  go_wp2_with fail
  have H1 : Hid (CM (w.alloc (.cells #[.string x, .int .i64 y] 37)) cb ib A n m sel frm t) := H.out.below ((Below.refl _ _).alloc (Nat.le_refl _) _)
  have O1 : Hid (OwnC cb w (w.alloc (.cells #[.string x, .int .i64 y] 37))) := .of ((Below.refl _ _).alloc (Nat.le_refl _) _)
  have d0 : (w.alloc (.cells #[.string x, .int .i64 y] 37)).cell? ⟨w.heap.size, 0, none⟩ = some (.string x) := by simp [go_sem]
  have d1 : (w.alloc (.cells #[.string x, .int .i64 y] 37)).cell? ⟨w.heap.size, 1, none⟩ = some (.int .i64 y) := by simp [go_sem]
  clear c3 hne
  obtain ⟨db, hdb⟩ : ∃ db, db = w.heap.size := ⟨_, rfl⟩
  have zd : db < (w.alloc (.cells #[.string x, .int .i64 y] 37)).heap.size := by simp [hdb]
  rw [← hdb] at d0 d1 ⊢
  generalize w.alloc (.cells #[.string x, .int .i64 y] 37) = w1 at H1 O1 d0 d1 zd ⊢
  clear hdb
  have c3 := H1.out.c3
  have c1 := H1.out.c1
  have f1 := H1.out.f 1
  have HG : Hid (∀ W : World, Below w1.heap.size w1 W → Calls Try.prog 13 #[.agg #[.string x, .int .i64 y], .pointer (some ⟨ib, 0, none⟩)] W fun e w' => e = .returned (.slice A n n) ∧ Below W.heap.size W w') := fun W hW =>
    given_any ib _ (.bool true) x y W (H1.out.below hW).ci (H1.out.below hW).is A n rfl
  have b0 : Below w1.heap.size w1 w1.drew := (Below.refl _ _).drew
  refine region_held_tail 9 (S := (fun w' => w'.cell? ⟨cb, 3, none⟩ = some (.func (.func 13) #[] #[.pointer (some ⟨ib, 0, none⟩)]) ∧ w'.cell? ⟨db, 0, none⟩ = some (.string x) ∧ w'.cell? ⟨db, 1, none⟩ = some (.int .i64 y))) (by kernel_rfl) (by kernel_rfl) ?_ (fun hHeld => ?_)
  · (try dsimp only); first | done | (first | exact ⟨c3, d0, d1⟩ | exact ⟨q3, q0, q1⟩)
  refine HeldT.take (i := 0) (v := ?_) (by simp only [List.getElem?_toArray, List.getElem?_cons_succ, List.getElem?_cons_zero]; rfl) (by kernel_rfl) (by kernel_rfl) (by kernel_rfl) (by kernel_rfl) (by exact fun _ _ _ h => h) ?_ (by assumption) ?_
  rotate_left
  · refine Or.inl ⟨by rfl, ?_⟩
    (intro w hSw; (try dsimp only at hSw); go_simp; try with_reducible rfl)
  try simp only [Act.put, List.setIfInBounds_toArray, List.set_cons_zero, List.set_cons_succ]
  refine HeldT.take (i := 1) (v := ?_) (by simp only [List.getElem?_toArray, List.getElem?_cons_succ, List.getElem?_cons_zero]; rfl) (by kernel_rfl) (by kernel_rfl) (by kernel_rfl) (by kernel_rfl) (by exact fun _ _ _ h => h) ?_ (by assumption) ?_
  rotate_left
  · refine Or.inl ⟨by rfl, ?_⟩
    (intro w hSw; (try dsimp only at hSw); go_simp; try with_reducible rfl)
  try simp only [Act.put, List.setIfInBounds_toArray, List.set_cons_zero, List.set_cons_succ]
  refine HeldT.take (i := 2) (v := ?_) (by simp only [List.getElem?_toArray, List.getElem?_cons_succ, List.getElem?_cons_zero]; rfl) (by kernel_rfl) (by kernel_rfl) (by kernel_rfl) (by kernel_rfl) (by exact fun _ _ _ h => h) ?_ (by assumption) ?_
  rotate_left
  · refine Or.inl ⟨by rfl, ?_⟩
    (intro w hSw; (try dsimp only at hSw); go_simp; try with_reducible rfl)
  try simp only [Act.put, List.setIfInBounds_toArray, List.set_cons_zero, List.set_cons_succ]
  refine HeldT.take (i := 3) (v := ?_) (by simp only [List.getElem?_toArray, List.getElem?_cons_succ, List.getElem?_cons_zero]; rfl) (by kernel_rfl) (by kernel_rfl) (by kernel_rfl) (by kernel_rfl) (by exact fun _ _ _ h => h) ?_ (by assumption) ?_
  rotate_left
  · refine Or.inl ⟨by rfl, ?_⟩
    (intro w hSw; (try dsimp only at hSw); go_simp; try with_reducible rfl)
  try simp only [Act.put, List.setIfInBounds_toArray, List.set_cons_zero, List.set_cons_succ]
  refine HeldT.take (i := 4) (v := ?_) (by simp only [List.getElem?_toArray, List.getElem?_cons_succ, List.getElem?_cons_zero]; rfl) (by kernel_rfl) (by kernel_rfl) (by kernel_rfl) (by kernel_rfl) (by exact fun _ _ _ h => h) ?_ (by assumption) ?_
  rotate_left
  · refine Or.inl ⟨by rfl, ?_⟩
    (intro w hSw; (try dsimp only at hSw); go_simp; try with_reducible rfl)
  try simp only [Act.put, List.setIfInBounds_toArray, List.set_cons_zero, List.set_cons_succ]
  refine HeldT.take (i := 5) (v := ?_) (by simp only [List.getElem?_toArray, List.getElem?_cons_succ, List.getElem?_cons_zero]; rfl) (by kernel_rfl) (by kernel_rfl) (by kernel_rfl) (by kernel_rfl) (by exact fun _ _ _ h => h) ?_ (by assumption) ?_
  rotate_left
  · refine Or.inl ⟨by rfl, ?_⟩
    (intro w hSw; (try dsimp only at hSw); go_simp; try with_reducible rfl)
  try simp only [Act.put, List.setIfInBounds_toArray, List.set_cons_zero, List.set_cons_succ]
  refine HeldT.one (i := 6) (by simp only [List.getElem?_toArray, List.getElem?_cons_succ, List.getElem?_cons_zero]; rfl) (by kernel_rfl) (by kernel_rfl) (fun K hK => ?_)
  go_simp
  ((refine (HG.out _ b0).mono ?_); rintro e w2 ⟨rfl, b2⟩; have b3 := b0.trans b2; have q3 := (b3.cell (p := ⟨cb, 3, none⟩) H1.out.cs).trans c3; have q0 := (b3.cell (p := ⟨db, 0, none⟩) zd).trans d0; have q1 := (b3.cell (p := ⟨db, 1, none⟩) zd).trans d1; have H3 := Go.Lib.hid (H1.out.below b3); have O3 := Go.Lib.hid (O1.out.after b3))
  try go_wp2_with fail
  refine hK.out _ _ ?_ (fun hHeld => ?_)
  · (try dsimp only); first | done | (first | exact ⟨c3, d0, d1⟩ | exact ⟨q3, q0, q1⟩)
  clear hK K
  try simp only [Act.put, List.setIfInBounds_toArray, List.set_cons_zero, List.set_cons_succ]
  refine HeldT.take (i := 7) (v := ?_) (by simp only [List.getElem?_toArray, List.getElem?_cons_succ, List.getElem?_cons_zero]; rfl) (by kernel_rfl) (by kernel_rfl) (by kernel_rfl) (by kernel_rfl) (by exact fun _ _ _ h => h) ?_ (by assumption) ?_
  rotate_left
  · refine Or.inl ⟨by rfl, ?_⟩
    (intro w hSw; (try dsimp only at hSw); go_simp; try with_reducible rfl)
  try simp only [Act.put, List.setIfInBounds_toArray, List.set_cons_zero, List.set_cons_succ]
  refine HeldT.take (i := 8) (v := ?_) (by simp only [List.getElem?_toArray, List.getElem?_cons_succ, List.getElem?_cons_zero]; rfl) (by kernel_rfl) (by kernel_rfl) (by kernel_rfl) (by kernel_rfl) (by exact fun _ _ _ h => h) ?_ (by assumption) ?_
  rotate_left
  · refine Or.inl ⟨by rfl, ?_⟩
    (intro w hSw; (try dsimp only at hSw); go_simp; try with_reducible rfl)
  try simp only [Act.put, List.setIfInBounds_toArray, List.set_cons_zero, List.set_cons_succ]
  refine HeldT.tail (by kernel_rfl) rfl ?_
  have e1 := H3.out.c1
  have g1 := H3.out.f 1
  go_wp2_with fail
  go_returns
  exact ⟨rfl, H3.out.tmp _ rfl, O3.out.set _ _⟩

/-- What a step does: 1 on, 2 back, anything else to none. -/
def nxtS (n m sel frm s : Int) : Int := if s = 1 then (if n ≤ sel + 1 then -1 else sel + 1) else if s = 2 then (if sel < 0 then n - 1 else sel - 1) else -1
def nxtF (n m sel frm s : Int) : Int := if s = 1 then (if n ≤ sel + 1 then 0 else if frm + m - 1 = sel then frm + 1 else frm) else if s = 2 then (if sel < 0 then n - min m n else if frm = sel ∧ 0 < sel then frm - 1 else frm) else 0
/-- What is selected, and from where on is shown, stand within. -/
def Good (n m sel frm : Int) : Prop := -1 ≤ sel ∧ sel < n ∧ 0 ≤ frm ∧ frm ≤ 40 ∧ (sel = -1 → frm = 0) ∧ (0 ≤ sel → frm ≤ sel ∧ sel ≤ frm + m - 1)
theorem Good.next {n m sel frm s : Int} (hn : 1 ≤ n) (hn2 : n ≤ 40) (hm : 1 ≤ m) (h : Good n m sel frm) : Good n m (nxtS n m sel frm s) (nxtF n m sel frm s) := by
  obtain ⟨h1, h2, h3, h4, h5, h6⟩ := h
  unfold nxtS nxtF Good
  repeat' split
  all_goals (refine ⟨?_, ?_, ?_, ?_, ?_, ?_⟩ <;> omega)

theorem reset_any (cb ib : Nat) (A : Option Addr) (n m : Nat) (sel frm : Int) (t : Value) (w : World) (h : CM w cb ib A n m sel frm t) :
    Calls Try.prog 14 #[.pointer (some ⟨cb, 0, none⟩)] w fun e w' => e = .returned (.tuple #[]) ∧ (CM w' cb ib A n m (-1) 0 (.slice A n n) ∧ OwnC cb w w') := by
  have H2 : Hid (CM ((w.setCell ⟨cb, 0, none⟩ (.int .i64 (-1))).setCell ⟨cb, 4, none⟩ (.int .i64 0)) cb ib A n m (-1) 0 t) := (h.sel (-1)).frm 0
  have O2 : Hid (OwnC cb w ((w.setCell ⟨cb, 0, none⟩ (.int .i64 (-1))).setCell ⟨cb, 4, none⟩ (.int .i64 0))) := ((OwnC.refl _ _).set _ _).set _ _
  have c0 := h.c0
  have c4 := h.c4
  have f0 := h.f 0
  have f4 := h.f 4
  have cs := h.cs
  clear h
  go_enter Try.func14, Try.ntmps14
  go_wp2_with fail
  refine (new_document _).mono ?_
  rintro e w1 ⟨rfl, rfl⟩
  have H3 := Go.Lib.hid (H2.out.below ((Below.refl _ _).alloc (Nat.le_refl _) (.cells #[.string ⟨#[]⟩, .int .i64 0] 37)))
  have O3 := Go.Lib.hid (O2.out.after ((Below.refl _ _).alloc (Nat.le_refl _) (.cells #[.string ⟨#[]⟩, .int .i64 0] 37)))
  go_wp2_with fail
  refine (update_doc cb ib A n m (-1) 0 t _ _ _ H3.out).mono ?_
  rintro e w2 ⟨rfl, h2, o2⟩
  have H4 := Go.Lib.hid h2
  clear h2
  go_wp2_with fail
  go_returns
  exact ⟨rfl, H4.out, O3.out.trans o2⟩

/-- update, behind a step: over the end to none, ahead of none to the last one. -/
theorem update_any (cb ib : Nat) (A : Option Addr) (n m : Nat) (sel frm : Int) (w : World) (h : CM w cb ib A n m sel frm (.slice A n n)) (hn : 1 ≤ n) (hn2 : n ≤ 40) (hm : 1 ≤ m) (hm2 : m ≤ 20) (hs : -2 ≤ sel) (hs2 : sel ≤ n) :
    Calls Try.prog 19 #[.pointer (some ⟨cb, 0, none⟩)] w fun e w' => e = .returned (.tuple #[]) ∧ (CM w' cb ib A n m (if (n : Int) ≤ sel then -1 else if sel < -1 then n - 1 else sel) (if (n : Int) ≤ sel then 0 else if sel < -1 then n - min (m : Int) n else frm) (.slice A n n) ∧ OwnC cb w w') := by
  have H := Go.Lib.hid h
  have c0 := h.c0
  have c1 := h.c1
  have c2 := h.c2
  have cs := h.cs
  have hmi : IntKind.i64.wrap (m : Int) = (m : Int) := IntWalk.i64_in _ (by omega)
  clear h
  by_cases e1 : (n : Int) ≤ sel
  · rw [if_pos e1, if_pos e1]
    by_cases e2 : (n : Int) < m
    all_goals
      go_enter Try.func19, Try.ntmps19
      go_wp2_with fail
      go_quiet (fail)
      have H1 := Go.Lib.hid (H.out.drewN nq)
      go_wp2_with fail
      refine (reset_any cb ib A n m sel frm _ _ H1.out).mono ?_
      rintro e w2 ⟨rfl, h2, o2⟩
      have H4 := Go.Lib.hid h2
      clear h2
      go_wp2_with fail
      go_returns
      exact ⟨rfl, H4.out, ((OwnC.refl _ _).drewN _).trans o2⟩
  · rw [if_neg e1, if_neg e1]
    by_cases e3 : sel < -1
    · rw [if_pos e3, if_pos e3]
      obtain ⟨p, hp⟩ : ∃ p : Int, p = (n : Int) - 1 := ⟨_, rfl⟩
      obtain ⟨q, hq⟩ : ∃ q : Int, q = (n : Int) - min (m : Int) n := ⟨_, rfl⟩
      rw [← hp, ← hq]
      have hw1 : IntKind.i64.wrap ((n : Int) - 1) = p := by rw [hp]; exact IntWalk.i64_in _ (by omega)
      have f0 := H.out.f 0
      have f4 := H.out.f 4
      have c4 := H.out.c4
      by_cases e2 : (n : Int) < m
      · obtain rfl : q = 0 := by omega
        clear hp hq
        go_enter Try.func19, Try.ntmps19
        go_wp2_with fail
        go_quiet (fail)
        have H1 := Go.Lib.hid (((H.out.drewN nq).sel p).frm 0)
        have O1 := Go.Lib.hid ((((OwnC.refl cb w).drewN nq).set 0 (.int .i64 p)).set 4 (.int .i64 0))
        go_wp2_with fail
        go_returns
        exact ⟨rfl, H1.out, O1.out⟩
      · have hw2 : IntKind.i64.wrap ((n : Int) - (m : Int)) = q := by rw [hq, IntWalk.i64_in _ (by omega)]; omega
        clear hp hq
        go_enter Try.func19, Try.ntmps19
        go_wp2_with fail
        go_quiet (fail)
        have H1 := Go.Lib.hid (((H.out.drewN nq).sel p).frm q)
        have O1 := Go.Lib.hid ((((OwnC.refl cb w).drewN nq).set 0 (.int .i64 p)).set 4 (.int .i64 q))
        go_wp2_with fail
        go_returns
        exact ⟨rfl, H1.out, O1.out⟩
    · rw [if_neg e3, if_neg e3]
      by_cases e2 : (n : Int) < m
      all_goals
        go_enter Try.func19, Try.ntmps19
        go_wp2_with fail
        go_quiet (fail)
        have H1 := Go.Lib.hid (H.out.drewN nq)
        go_wp2_with fail
        go_returns
        exact ⟨rfl, H1.out, (OwnC.refl _ _).drewN _⟩

theorem next_any (cb ib : Nat) (A : Option Addr) (n m : Nat) (sel frm : Int) (w : World) (h : CM w cb ib A n m sel frm (.slice A n n)) (hn : 1 ≤ n) (hn2 : n ≤ 40) (hm : 1 ≤ m) (hm2 : m ≤ 20) (hg : Good n m sel frm) :
    Calls Try.prog 15 #[.pointer (some ⟨cb, 0, none⟩)] w fun e w' => e = .returned (.tuple #[]) ∧ (CM w' cb ib A n m (nxtS n m sel frm 1) (nxtF n m sel frm 1) (.slice A n n) ∧ OwnC cb w w') := by
  obtain ⟨g1, g2, g3, g4, g5, g6⟩ := hg
  have H := Go.Lib.hid h
  have c0 := h.c0
  have c2 := h.c2
  have c4 := h.c4
  have cs := h.cs
  have f0 := h.f 0
  have f4 := h.f 4
  clear h
  have hmi : IntKind.i64.wrap (m : Int) = (m : Int) := IntWalk.i64_in _ (by omega)
  obtain ⟨s1, hs1⟩ : ∃ p : Int, p = sel + 1 := ⟨_, rfl⟩
  obtain ⟨x, hx⟩ : ∃ p : Int, p = frm + m := ⟨_, rfl⟩
  obtain ⟨y, hy⟩ : ∃ p : Int, p = frm + m - 1 := ⟨_, rfl⟩
  obtain ⟨z, hz⟩ : ∃ p : Int, p = frm + 1 := ⟨_, rfl⟩
  have hw1 : IntKind.i64.wrap (sel + 1) = s1 := by rw [hs1]; exact IntWalk.i64_in _ (by omega)
  have hw2 : IntKind.i64.wrap (frm + (m : Int)) = x := by rw [hx]; exact IntWalk.i64_in _ (by omega)
  have hw3 : IntKind.i64.wrap (x - 1) = y := by rw [hx, hy]; exact IntWalk.i64_in _ (by omega)
  have hw4 : IntKind.i64.wrap (frm + 1) = z := by rw [hz]; exact IntWalk.i64_in _ (by omega)
  have r1 : nxtS n m sel frm 1 = (if (n : Int) ≤ s1 then (-1 : Int) else if s1 < -1 then (n : Int) - 1 else s1) := by
    unfold nxtS; rw [if_pos rfl, hs1]; repeat' split
    all_goals omega
  by_cases e1 : y = sel
  · have r2 : nxtF n m sel frm 1 = (if (n : Int) ≤ s1 then (0 : Int) else if s1 < -1 then (n : Int) - min (m : Int) n else z) := by
      unfold nxtF; rw [if_pos rfl, hs1]; repeat' split
      all_goals omega
    have e1' : (y == sel) = true := by simp [e1]
    rw [r1, r2]
    have HU : Hid (∀ W, CM W cb ib A n m s1 z (.slice A n n) → Calls Try.prog 19 #[.pointer (some ⟨cb, 0, none⟩)] W fun e w' => e = .returned (.tuple #[]) ∧ (CM w' cb ib A n m (if (n : Int) ≤ s1 then (-1 : Int) else if s1 < -1 then (n : Int) - 1 else s1) (if (n : Int) ≤ s1 then (0 : Int) else if s1 < -1 then (n : Int) - min (m : Int) n else z) (.slice A n n) ∧ OwnC cb W w')) := fun W hW => update_any cb ib A n m s1 z W hW hn hn2 hm hm2 (by omega) (by omega)
    generalize (if (n : Int) ≤ s1 then (-1 : Int) else if s1 < -1 then (n : Int) - 1 else s1) = S1 at HU ⊢
    generalize (if (n : Int) ≤ s1 then (0 : Int) else if s1 < -1 then (n : Int) - min (m : Int) n else z) = F1 at HU ⊢
    clear r1 r2 hs1 hx hy hz e1 g1 g2 g3 g4 g5 g6
    go_enter Try.func15, Try.ntmps15
    go_wp2_with fail
    go_quiet (fail)
    have H1 := Go.Lib.hid (((H.out.drewN nq).frm z).sel s1)
    have O1 := Go.Lib.hid ((((OwnC.refl cb w).drewN nq).set 4 (.int .i64 z)).set 0 (.int .i64 s1))
    go_wp2_with fail
    refine (HU.out _ H1.out).mono ?_
    rintro e w2 ⟨rfl, h2, o2⟩
    have H4 := Go.Lib.hid h2
    clear h2
    go_wp2_with fail
    go_returns
    exact ⟨rfl, H4.out, O1.out.trans o2⟩
  · have r2 : nxtF n m sel frm 1 = (if (n : Int) ≤ s1 then (0 : Int) else if s1 < -1 then (n : Int) - min (m : Int) n else frm) := by
      unfold nxtF; rw [if_pos rfl, hs1]; repeat' split
      all_goals omega
    have e1' : (y == sel) = false := by simp [e1]
    rw [r1, r2]
    have HU : Hid (∀ W, CM W cb ib A n m s1 frm (.slice A n n) → Calls Try.prog 19 #[.pointer (some ⟨cb, 0, none⟩)] W fun e w' => e = .returned (.tuple #[]) ∧ (CM w' cb ib A n m (if (n : Int) ≤ s1 then (-1 : Int) else if s1 < -1 then (n : Int) - 1 else s1) (if (n : Int) ≤ s1 then (0 : Int) else if s1 < -1 then (n : Int) - min (m : Int) n else frm) (.slice A n n) ∧ OwnC cb W w')) := fun W hW => update_any cb ib A n m s1 frm W hW hn hn2 hm hm2 (by omega) (by omega)
    generalize (if (n : Int) ≤ s1 then (-1 : Int) else if s1 < -1 then (n : Int) - 1 else s1) = S1 at HU ⊢
    generalize (if (n : Int) ≤ s1 then (0 : Int) else if s1 < -1 then (n : Int) - min (m : Int) n else frm) = F1 at HU ⊢
    clear r1 r2 hs1 hx hy hz e1 g1 g2 g3 g4 g5 g6
    go_enter Try.func15, Try.ntmps15
    go_wp2_with fail
    go_quiet (fail)
    have H1 := Go.Lib.hid ((H.out.drewN nq).sel s1)
    have O1 := Go.Lib.hid (((OwnC.refl cb w).drewN nq).set 0 (.int .i64 s1))
    go_wp2_with fail
    refine (HU.out _ H1.out).mono ?_
    rintro e w2 ⟨rfl, h2, o2⟩
    have H4 := Go.Lib.hid h2
    clear h2
    go_wp2_with fail
    go_returns
    exact ⟨rfl, H4.out, O1.out.trans o2⟩

theorem prev_any (cb ib : Nat) (A : Option Addr) (n m : Nat) (sel frm : Int) (w : World) (h : CM w cb ib A n m sel frm (.slice A n n)) (hn : 1 ≤ n) (hn2 : n ≤ 40) (hm : 1 ≤ m) (hm2 : m ≤ 20) (hg : Good n m sel frm) :
    Calls Try.prog 16 #[.pointer (some ⟨cb, 0, none⟩)] w fun e w' => e = .returned (.tuple #[]) ∧ (CM w' cb ib A n m (nxtS n m sel frm 2) (nxtF n m sel frm 2) (.slice A n n) ∧ OwnC cb w w') := by
  obtain ⟨g1, g2, g3, g4, g5, g6⟩ := hg
  have H := Go.Lib.hid h
  have c0 := h.c0
  have c4 := h.c4
  have cs := h.cs
  have f0 := h.f 0
  have f4 := h.f 4
  clear h
  obtain ⟨s1, hs1⟩ : ∃ p : Int, p = sel - 1 := ⟨_, rfl⟩
  obtain ⟨z, hz⟩ : ∃ p : Int, p = frm - 1 := ⟨_, rfl⟩
  have hw1 : IntKind.i64.wrap (sel - 1) = s1 := by rw [hs1]; exact IntWalk.i64_in _ (by omega)
  have hw4 : IntKind.i64.wrap (frm - 1) = z := by rw [hz]; exact IntWalk.i64_in _ (by omega)
  have r1 : nxtS n m sel frm 2 = (if (n : Int) ≤ s1 then (-1 : Int) else if s1 < -1 then (n : Int) - 1 else s1) := by
    unfold nxtS; rw [if_neg (by omega), if_pos rfl, hs1]; repeat' split
    all_goals omega
  by_cases e1 : frm = sel ∧ 0 < sel
  · have r2 : nxtF n m sel frm 2 = (if (n : Int) ≤ s1 then (0 : Int) else if s1 < -1 then (n : Int) - min (m : Int) n else z) := by
      unfold nxtF; rw [if_neg (by omega), if_pos rfl, hs1]; repeat' split
      all_goals omega
    obtain ⟨e1, e2⟩ := e1
    have e1' : (frm == sel) = true := by simp [e1]
    have e2' : ¬ sel ≤ 0 := by omega
    rw [r1, r2]
    have HU : Hid (∀ W, CM W cb ib A n m s1 z (.slice A n n) → Calls Try.prog 19 #[.pointer (some ⟨cb, 0, none⟩)] W fun e w' => e = .returned (.tuple #[]) ∧ (CM w' cb ib A n m (if (n : Int) ≤ s1 then (-1 : Int) else if s1 < -1 then (n : Int) - 1 else s1) (if (n : Int) ≤ s1 then (0 : Int) else if s1 < -1 then (n : Int) - min (m : Int) n else z) (.slice A n n) ∧ OwnC cb W w')) := fun W hW => update_any cb ib A n m s1 z W hW hn hn2 hm hm2 (by omega) (by omega)
    generalize (if (n : Int) ≤ s1 then (-1 : Int) else if s1 < -1 then (n : Int) - 1 else s1) = S1 at HU ⊢
    generalize (if (n : Int) ≤ s1 then (0 : Int) else if s1 < -1 then (n : Int) - min (m : Int) n else z) = F1 at HU ⊢
    clear r1 r2 hs1 hz e1 g1 g2 g3 g4 g5 g6
    go_enter Try.func16, Try.ntmps16
    go_wp2_with fail
    go_quiet (fail)
    have H1 := Go.Lib.hid (((H.out.drewN nq).frm z).sel s1)
    have O1 := Go.Lib.hid ((((OwnC.refl cb w).drewN nq).set 4 (.int .i64 z)).set 0 (.int .i64 s1))
    go_wp2_with fail
    refine (HU.out _ H1.out).mono ?_
    rintro e w2 ⟨rfl, h2, o2⟩
    have H4 := Go.Lib.hid h2
    clear h2
    go_wp2_with fail
    go_returns
    exact ⟨rfl, H4.out, O1.out.trans o2⟩
  · have r2 : nxtF n m sel frm 2 = (if (n : Int) ≤ s1 then (0 : Int) else if s1 < -1 then (n : Int) - min (m : Int) n else frm) := by
      unfold nxtF; rw [if_neg (by omega), if_pos rfl, hs1]; repeat' split
      all_goals omega
    rw [r1, r2]
    have HU : Hid (∀ W, CM W cb ib A n m s1 frm (.slice A n n) → Calls Try.prog 19 #[.pointer (some ⟨cb, 0, none⟩)] W fun e w' => e = .returned (.tuple #[]) ∧ (CM w' cb ib A n m (if (n : Int) ≤ s1 then (-1 : Int) else if s1 < -1 then (n : Int) - 1 else s1) (if (n : Int) ≤ s1 then (0 : Int) else if s1 < -1 then (n : Int) - min (m : Int) n else frm) (.slice A n n) ∧ OwnC cb W w')) := fun W hW => update_any cb ib A n m s1 frm W hW hn hn2 hm hm2 (by omega) (by omega)
    generalize (if (n : Int) ≤ s1 then (-1 : Int) else if s1 < -1 then (n : Int) - 1 else s1) = S1 at HU ⊢
    generalize (if (n : Int) ≤ s1 then (0 : Int) else if s1 < -1 then (n : Int) - min (m : Int) n else frm) = F1 at HU ⊢
    have hc : (frm == sel) = false ∨ (frm == sel) = true ∧ ¬ (0 : Int) < sel := by
      by_cases e : frm = sel
      · exact .inr ⟨by simp [e], fun h => e1 ⟨e, h⟩⟩
      · exact .inl (by simp [e])
    clear r1 r2 hs1 hz e1 g1 g2 g3 g4 g5 g6
    rcases hc with e1' | ⟨e1', e2'⟩
    all_goals
      go_enter Try.func16, Try.ntmps16
      go_wp2_with fail
      go_quiet (fail)
      have H1 := Go.Lib.hid ((H.out.drewN nq).sel s1)
      have O1 := Go.Lib.hid (((OwnC.refl cb w).drewN nq).set 0 (.int .i64 s1))
      go_wp2_with fail
      refine (HU.out _ H1.out).mono ?_
      rintro e w2 ⟨rfl, h2, o2⟩
      have H4 := Go.Lib.hid h2
      clear h2
      go_wp2_with fail
      go_returns
      exact ⟨rfl, H4.out, O1.out.trans o2⟩

theorem choose_any (cb ib : Nat) (A : Option Addr) (n m : Nat) (sel frm : Int) (s : Int) (w : World) (h : CM w cb ib A n m sel frm (.slice A n n)) (hn : 1 ≤ n) (hn2 : n ≤ 40) (hm : 1 ≤ m) (hm2 : m ≤ 20) (hg : Good n m sel frm) (hs : s = 1 ∨ s = 2 ∨ s = 3) :
    Calls Try.prog 9 #[.pointer (some ⟨cb, 0, none⟩), .int .u8 s] w fun e w' => e = .returned (.tuple #[]) ∧ (CM w' cb ib A n m (nxtS n m sel frm s) (nxtF n m sel frm s) (.slice A n n) ∧ OwnC cb w w') := by
  have H := Go.Lib.hid h
  have HG := Go.Lib.hid hg
  clear h hg
  rcases hs with rfl | rfl | rfl
  · go_enter Try.func9, Try.ntmps9
    go_wp2_with fail
    refine (next_any cb ib A n m sel frm _ H.out hn hn2 hm hm2 HG.out).mono ?_
    rintro e w2 ⟨rfl, h2, o2⟩
    have H4 := Go.Lib.hid h2
    clear h2
    go_wp2_with fail
    go_returns
    exact ⟨rfl, H4.out, o2⟩
  · go_enter Try.func9, Try.ntmps9
    go_wp2_with fail
    refine (prev_any cb ib A n m sel frm _ H.out hn hn2 hm hm2 HG.out).mono ?_
    rintro e w2 ⟨rfl, h2, o2⟩
    have H4 := Go.Lib.hid h2
    clear h2
    go_wp2_with fail
    go_returns
    exact ⟨rfl, H4.out, o2⟩
  · have r1 : nxtS n m sel frm 3 = -1 := by unfold nxtS; rw [if_neg (by omega), if_neg (by omega)]
    have r2 : nxtF n m sel frm 3 = 0 := by unfold nxtF; rw [if_neg (by omega), if_neg (by omega)]
    rw [r1, r2]
    go_enter Try.func9, Try.ntmps9
    go_wp2_with fail
    refine (reset_any cb ib A n m sel frm _ _ H.out).mono ?_
    rintro e w2 ⟨rfl, h2, o2⟩
    have H4 := Go.Lib.hid h2
    clear h2
    go_wp2_with fail
    go_returns
    exact ⟨rfl, H4.out, o2⟩

theorem place_any (cb ib : Nat) (A : Option Addr) (n m : Nat) (sel frm : Int) (t : Value) (w : World) (h : CM w cb ib A n m sel frm t) :
    Calls Try.prog 10 #[.pointer (some ⟨cb, 0, none⟩)] w fun e w' => e = .returned (.tuple #[.int .i64 sel, .int .i64 frm]) ∧ ∃ q, w' = w.drewN q := by
  have c0 := h.c0
  have c4 := h.c4
  have cs := h.cs
  clear h
  go_enter Try.func10, Try.ntmps10
  go_wp2_with fail
  go_quiet (fail)
  go_wp2_with fail
  go_returns
  exact ⟨rfl, _, rfl⟩
end Go.Proofs.Ytmjgcfghejjleaa
