/- (*bytes.Buffer).grow, with a frame that tells all other blocks kept. -/
import Derived.Test.YtbibokkclejapaaDoorIndBuf
import Derived.Test.YtbibokkclejapaaDoorShelf
import Derived.Test.YtbibokkclejapaaDoorHeldTail
namespace Go.Proofs.YtbibokkclejapaaDoor
open Go.RowKit
set_option linter.unusedVariables false
set_option linter.unusedSimpArgs false

/-- All but a block stands, and in that all cells but one. -/
structure KeptB (b q : Nat) (w w' : World) : Prop where
  os : w'.os = w.os
  tape : w'.tape = w.tape
  output : w'.output = w.output
  size : w.heap.size ≤ w'.heap.size
  rest : ∀ k, k < w.heap.size → k ≠ b → w'.heap[k]? = w.heap[k]?
  cells : ∀ o, o ≠ q → w'.cell? ⟨b, o, none⟩ = w.cell? ⟨b, o, none⟩
  fz : ∀ j, w'.frozen? ⟨b, j, none⟩ = w.frozen? ⟨b, j, none⟩
theorem KeptB.of {b q : Nat} {w w' : World} (h : Below w.heap.size w w') (hb : b < w.heap.size) : KeptB b q w w' :=
  ⟨h.os, h.tape, h.output, h.size, fun k hk _ => h.block k hk, fun o _ => h.cell (p := ⟨b, o, none⟩) hb, fun j => h.frozen (p := ⟨b, j, none⟩) hb⟩
theorem KeptB.trans {b q : Nat} {a c d : World} (h : KeptB b q a c) (k : KeptB b q c d) : KeptB b q a d :=
  ⟨k.os.trans h.os, k.tape.trans h.tape, k.output.trans h.output, Nat.le_trans h.size k.size, fun i hi hn => (k.rest i (Nat.lt_of_lt_of_le hi h.size) hn).trans (h.rest i hi hn), fun o ho => (k.cells o ho).trans (h.cells o ho), fun j => (k.fz j).trans (h.fz j)⟩
theorem KeptB.set {b q : Nat} {a w : World} (h : KeptB b q a w) (u : Value) : KeptB b q a (w.setCell ⟨b, q, none⟩ u) :=
  h.trans ⟨rfl, rfl, rfl, by simp [World.setCell], fun k _ hn => Below.heap_setCell _ _ _ _ hn, fun o ho => World.cell?_setCell_other _ _ _ _ (by intro e; injection e with _ e2; first | exact ho e2 | exact ho e2.symm), fun j => World.frozen?_setCell _ _ _ _⟩
/-- A store of what stands there already. -/
theorem KeptB.again {b q o : Nat} {a w : World} {u : Value} (h : KeptB b q a w) (ho : o ≠ q) (hu : w.cell? ⟨b, o, none⟩ = some u) : KeptB b q a (w.setCell ⟨b, o, none⟩ u) :=
  h.trans ⟨rfl, rfl, rfl, by simp [World.setCell], fun k _ hn => Below.heap_setCell _ _ _ _ hn, fun p hp => by
    by_cases e : p = o
    · subst e
      rw [World.cell?_setCell_same' _ _ _ (by rw [hu]; rfl), hu]
    · exact World.cell?_setCell_other _ _ _ _ (by intro e'; injection e' with _ e2; first | exact e e2 | exact e e2.symm), fun j => World.frozen?_setCell _ _ _ _⟩

theorem sizeB (w : World) : (sizeOf (Tryd.prog.elem 51)).run Tryd.prog w = .ok 1 w := by kernel_rfl
theorem whole_run (g n cap : Nat) : ∀ w, (Instr.slice 51 (.slice (some ⟨g, 0, none⟩) n cap) (some (.int .i64 0)) none none).run Tryd.prog w = .ok (.slice (some ⟨g, 0, none⟩) n cap) w := fun w => by
  have he : Tryd.prog.elem 51 = 5 := by simp [Program.elem, Tryd.underlying51]
  rw [run_slice_l w 51 _ n cap (by rw [he]; exact Tryd.underlying51) .i64 0 (by omega) (by omega), sizeB]
  simp [Result.andThen, sliced, Addr.add]
theorem upto_run (A : Option Addr) (n cap : Nat) (i : Nat) (z : Int) (hz : z = (i : Nat)) (hl : i ≤ cap) : ∀ w, (Instr.slice 51 (.slice A n cap) none (some (.int .i64 z)) none).run Tryd.prog w = .ok (.slice A i cap) w := fun w => by
  subst hz
  have he : Tryd.prog.elem 51 = 5 := by simp [Program.elem, Tryd.underlying51]
  rw [run_slice_h w 51 _ n cap (by rw [he]; exact Tryd.underlying51) .i64 i (by omega) (by omega), sizeB]
  cases A <;> simp [Result.andThen, sliced, Addr.add]

def GrowPost (b q n : Nat) (l : List UInt8) (w : World) (e : Ending) (w' : World) : Prop :=
  ∃ g cap cur, e = .returned (.int .i64 (l.length : Nat)) ∧ w'.cell? ⟨b, q, none⟩ = some (.slice (some ⟨g, 0, none⟩) (l.length + n) cap) ∧ w'.heap[g]? = some (.cells cur 5 (0, 0)) ∧ cur.size = cap ∧ l.length + n ≤ cap ∧ cap ≤ maxLen ∧ cur.toList.take l.length = Lib.byteCells l ∧ g ≠ b ∧ w.heap.size ≤ g ∧ KeptB b q w w'

set_option maxRecDepth 100000 in
set_option maxHeartbeats 2000000 in
theorem grow_row (b q g n cap : Nat) (cur : Array Value) (l : List UInt8) (w : World) (c0 : w.cell? ⟨b, q, none⟩ = some (.slice (some ⟨g, 0, none⟩) l.length cap)) (c1 : w.cell? ⟨b, q + 1, none⟩ = some (.int .i64 0)) (f : ∀ j, w.frozen? ⟨b, j, none⟩ = false)
    (hg : w.heap[g]? = some (.cells cur 5 (0, 0))) (hcs : cur.size = cap) (hlc : l.length ≤ cap) (hcm : cap ≤ 1000000) (htk : cur.toList.take l.length = Lib.byteCells l) (hgb : g ≠ b) (hn : 1 ≤ n) (hn2 : n ≤ 1000000) (hno : cap < l.length + n) :
    Calls Tryd.prog 61 #[.pointer (some ⟨b, q, none⟩), .int .i64 (n : Nat)] w (GrowPost b q n l w) := by
  have hz := lt_of_cell c0
  have HBA : Hid (BA w b q (some ⟨g, 0, none⟩) cap l → True) := fun _ => trivial
  have HLEN : Hid (∀ W : World, W.cell? ⟨b, q, none⟩ = some (.slice (some ⟨g, 0, none⟩) l.length cap) → W.cell? ⟨b, q + 1, none⟩ = some (.int .i64 0) → Calls Tryd.prog 80 #[.pointer (some ⟨b, q, none⟩)] W fun e w' => e = .returned (.int .i64 (l.length : Nat)) ∧ ∃ n, w' = W.drewN n) := fun W c0 c1 => by
    have hz := lt_of_cell c0
    have hle : l.length ≤ 1000000 := by omega
    generalize l.length = n at c0 hle
    go_enter Tryd.func80, Tryd.ntmps80
    go_wp2_with fail
    go_quiet (fail)
    go_wp2_with fail
    go_returns
    exact ⟨rfl, _, rfl⟩
  have HGS := Go.Lib.hid fun W h => Tryd.bytes_growSlice_row g l.length cap n cur W h hcs hlc hn (by omega) (by omega) (fun v hv => by
    rw [htk] at hv
    simp [Lib.byteCells] at hv
    obtain ⟨x, _, rfl⟩ := hv
    rfl)
  have HTK := Go.Lib.hid htk
  have HF := Go.Lib.hid f
  have HG := Go.Lib.hid hg
  clear htk hg
  obtain ⟨m, hm⟩ : ∃ m, m = l.length := ⟨_, rfl⟩
  have HM := Go.Lib.hid hm
  rw [← hm] at c0 HLEN HGS hlc hno
  clear hm HBA
  go_enter Tryd.func61, Tryd.ntmps61
  go_wp2_with fail
  refine (HLEN.out w c0 c1).mono ?_
  rintro e w1 ⟨rfl, nq, hw1⟩
  have hb1 : Below w.heap.size w w1 := by rw [hw1]; exact below_drewN (Below.refl _ _) nq
  have HK1 : Hid (KeptB b q w w1) := .of hb1 hz
  replace c0 := (hb1.cell (p := ⟨b, q, none⟩) hz).trans c0
  replace c1 := (hb1.cell (p := ⟨b, q + 1, none⟩) hz).trans c1
  have f1 : ∀ j, w1.frozen? ⟨b, j, none⟩ = false := fun j => (hb1.frozen (p := ⟨b, j, none⟩) hz).trans (HF.out j)
  have HG1 := Go.Lib.hid ((hb1.block g (Array.getElem?_eq_some_iff.1 HG.out).1).trans HG.out)
  have fq := f1 q
  have fq1 := f1 (q + 1)
  have hz1 : b < w1.heap.size := Nat.lt_of_lt_of_le hz hb1.size
  have HSZ := Go.Lib.hid hb1.size
  clear hw1 hb1 f f1 HF HG
  have htn := Go.Lib.hid (try_none b q (some ⟨g, 0, none⟩) cap m n w1 c0 hlc hno (by unfold maxLen; omega))
  obtain ⟨c2, hc2⟩ : ∃ z, z = cap / 2 := ⟨_, rfl⟩
  have hdiv : (cap : Int).tdiv 2 = (c2 : Nat) := by rw [hc2]; rfl
  have hlt2 : c2 < m + n := by omega
  have hc2m : c2 ≤ 1000000 := by omega
  clear hc2
  have hnil : ∀ W, (binOp .eql 51 (.slice (some ⟨g, 0, none⟩) m cap) (.slice none 0 0)).run Tryd.prog W = .ok (.bool false) W := fun W => by kernel_rfl
  have hq0 : ((m : Int) == 0) = true ∨ ((m : Int) == 0) = false := by cases ((m : Int) == 0) <;> simp
  rcases hq0 with q0 | q0
  all_goals
    go_wp2_with fail
    refine htn.out.mono ?_
    rintro e w2 ⟨rfl, rfl⟩
    have hfr := whole_run g m cap
    have hwn : IntKind.i64.wrap (n : Int) = (n : Nat) := IntWalk.i64_in _ (by omega)
    have k0 := c0
    have k1 := c1
    have HW1 := Go.Lib.hid hz1
    go_wp2_with fail
    refine region_held_tail 17 (S := (fun w' => w'.cell? ⟨b, q, none⟩ = some (.slice (some ⟨g, 0, none⟩) m cap) ∧ w'.cell? ⟨b, q + 1, none⟩ = some (.int .i64 0))) (by kernel_rfl) (by kernel_rfl) ?_ (fun hHeld => ?_)
    · (try dsimp only); first | done | (first | exact ⟨k0, k1⟩ | exact ⟨r0, r1⟩)
    refine HeldT.take (i := 0) (v := ?_) (by simp only [List.getElem?_toArray, List.getElem?_cons_succ, List.getElem?_cons_zero]; rfl) (by kernel_rfl) (by kernel_rfl) (by kernel_rfl) (by kernel_rfl) (by exact fun _ _ _ h => h) ?_ (by assumption) ?_
    rotate_left
    · refine Or.inl ⟨by rfl, ?_⟩
      (intro w hSw; (try dsimp only at hSw); go_simp; try with_reducible rfl)
    try simp only [Act.put, List.setIfInBounds_toArray, List.set_cons_zero, List.set_cons_succ]
    refine HeldT.take (i := 1) (v := ?_) (by simp only [List.getElem?_toArray, List.getElem?_cons_succ, List.getElem?_cons_zero]; rfl) (by kernel_rfl) (by kernel_rfl) (by kernel_rfl) (by kernel_rfl) (by exact fun _ _ _ h => h) ?_ (by assumption) ?_
    rotate_left
    · refine Or.inl ⟨by rfl, ?_⟩
      (intro w hSw; (try dsimp only at hSw); go_simp; try with_reducible rfl)
    try simp only [Act.put, List.setIfInBounds_toArray, List.set_cons_zero, List.set_cons_succ]
    refine HeldT.take (i := 2) (v := ?_) (by simp only [List.getElem?_toArray, List.getElem?_cons_succ, List.getElem?_cons_zero]; rfl) (by kernel_rfl) (by kernel_rfl) (by kernel_rfl) (by kernel_rfl) (by exact fun _ _ _ h => h) ?_ (by assumption) ?_
    rotate_left
    · refine Or.inl ⟨by rfl, ?_⟩
      (intro w hSw; (try dsimp only at hSw); go_simp; try with_reducible rfl)
    try simp only [Act.put, List.setIfInBounds_toArray, List.set_cons_zero, List.set_cons_succ]
    refine HeldT.take (i := 3) (v := ?_) (by simp only [List.getElem?_toArray, List.getElem?_cons_succ, List.getElem?_cons_zero]; rfl) (by kernel_rfl) (by kernel_rfl) (by kernel_rfl) (by kernel_rfl) (by exact fun _ _ _ h => h) ?_ (by assumption) ?_
    rotate_left
    · refine Or.inl ⟨by rfl, ?_⟩
      (intro w hSw; (try dsimp only at hSw); go_simp; try with_reducible rfl)
    try simp only [Act.put, List.setIfInBounds_toArray, List.set_cons_zero, List.set_cons_succ]
    refine HeldT.take (i := 4) (v := ?_) (by simp only [List.getElem?_toArray, List.getElem?_cons_succ, List.getElem?_cons_zero]; rfl) (by kernel_rfl) (by kernel_rfl) (by kernel_rfl) (by kernel_rfl) (by exact fun _ _ _ h => h) ?_ (by assumption) ?_
    rotate_left
    · refine Or.inl ⟨by rfl, ?_⟩
      (intro w hSw; (try dsimp only at hSw); go_simp; try with_reducible rfl)
    try simp only [Act.put, List.setIfInBounds_toArray, List.set_cons_zero, List.set_cons_succ]
    refine HeldT.take (i := 5) (v := ?_) (by simp only [List.getElem?_toArray, List.getElem?_cons_succ, List.getElem?_cons_zero]; rfl) (by kernel_rfl) (by kernel_rfl) (by kernel_rfl) (by kernel_rfl) (by exact fun _ _ _ h => h) ?_ (by assumption) ?_
    rotate_left
    · refine Or.inl ⟨by rfl, ?_⟩
      (intro w hSw; (try dsimp only at hSw); go_simp; try with_reducible rfl)
    try simp only [Act.put, List.setIfInBounds_toArray, List.set_cons_zero, List.set_cons_succ]
    refine HeldT.take (i := 6) (v := ?_) (by simp only [List.getElem?_toArray, List.getElem?_cons_succ, List.getElem?_cons_zero]; rfl) (by kernel_rfl) (by kernel_rfl) (by kernel_rfl) (by kernel_rfl) (by exact fun _ _ _ h => h) ?_ (by assumption) ?_
    rotate_left
    · refine Or.inl ⟨by rfl, ?_⟩
      (intro w hSw; (try dsimp only at hSw); go_simp; try with_reducible rfl)
    try simp only [Act.put, List.setIfInBounds_toArray, List.set_cons_zero, List.set_cons_succ]
    refine HeldT.take (i := 7) (v := ?_) (by simp only [List.getElem?_toArray, List.getElem?_cons_succ, List.getElem?_cons_zero]; rfl) (by kernel_rfl) (by kernel_rfl) (by kernel_rfl) (by kernel_rfl) (by exact fun _ _ _ h => h) ?_ (by assumption) ?_
    rotate_left
    · refine Or.inl ⟨by rfl, ?_⟩
      (intro w hSw; (try dsimp only at hSw); go_simp; try with_reducible rfl)
    try simp only [Act.put, List.setIfInBounds_toArray, List.set_cons_zero, List.set_cons_succ]
    refine HeldT.take (i := 8) (v := ?_) (by simp only [List.getElem?_toArray, List.getElem?_cons_succ, List.getElem?_cons_zero]; rfl) (by kernel_rfl) (by kernel_rfl) (by kernel_rfl) (by kernel_rfl) (by exact fun _ _ _ h => h) ?_ (by assumption) ?_
    rotate_left
    · refine Or.inl ⟨by rfl, ?_⟩
      (intro w hSw; (try dsimp only at hSw); go_simp; try with_reducible rfl)
    try simp only [Act.put, List.setIfInBounds_toArray, List.set_cons_zero, List.set_cons_succ]
    refine HeldT.take (i := 9) (v := ?_) (by simp only [List.getElem?_toArray, List.getElem?_cons_succ, List.getElem?_cons_zero]; rfl) (by kernel_rfl) (by kernel_rfl) (by kernel_rfl) (by kernel_rfl) (by exact fun _ _ _ h => h) ?_ (by assumption) ?_
    rotate_left
    · refine Or.inl ⟨by rfl, ?_⟩
      (intro w hSw; (try dsimp only at hSw); go_simp; try with_reducible rfl)
    try simp only [Act.put, List.setIfInBounds_toArray, List.set_cons_zero, List.set_cons_succ]
    refine HeldT.take (i := 10) (v := ?_) (by simp only [List.getElem?_toArray, List.getElem?_cons_succ, List.getElem?_cons_zero]; rfl) (by kernel_rfl) (by kernel_rfl) (by kernel_rfl) (by kernel_rfl) (by exact fun _ _ _ h => h) ?_ (by assumption) ?_
    rotate_left
    · refine Or.inl ⟨by rfl, ?_⟩
      (intro w hSw; (try dsimp only at hSw); go_simp; try with_reducible rfl)
    try simp only [Act.put, List.setIfInBounds_toArray, List.set_cons_zero, List.set_cons_succ]
    refine HeldT.take (i := 11) (v := ?_) (by simp only [List.getElem?_toArray, List.getElem?_cons_succ, List.getElem?_cons_zero]; rfl) (by kernel_rfl) (by kernel_rfl) (by kernel_rfl) (by kernel_rfl) (by exact fun _ _ _ h => h) ?_ (by assumption) ?_
    rotate_left
    · refine Or.inl ⟨by rfl, ?_⟩
      (intro w hSw; (try dsimp only at hSw); go_simp; try with_reducible rfl)
    try simp only [Act.put, List.setIfInBounds_toArray, List.set_cons_zero, List.set_cons_succ]
    refine HeldT.take (i := 12) (v := ?_) (by simp only [List.getElem?_toArray, List.getElem?_cons_succ, List.getElem?_cons_zero]; rfl) (by kernel_rfl) (by kernel_rfl) (by kernel_rfl) (by kernel_rfl) (by exact fun _ _ _ h => h) ?_ (by assumption) ?_
    rotate_left
    · refine Or.inl ⟨by rfl, ?_⟩
      (intro w hSw; (try dsimp only at hSw); go_simp; try with_reducible rfl)
    try simp only [Act.put, List.setIfInBounds_toArray, List.set_cons_zero, List.set_cons_succ]
    refine HeldT.take (i := 13) (v := ?_) (by simp only [List.getElem?_toArray, List.getElem?_cons_succ, List.getElem?_cons_zero]; rfl) (by kernel_rfl) (by kernel_rfl) (by kernel_rfl) (by kernel_rfl) (by exact fun _ _ _ h => h) ?_ (by assumption) ?_
    rotate_left
    · refine Or.inl ⟨by rfl, ?_⟩
      (intro w hSw; (try dsimp only at hSw); go_simp; try with_reducible rfl)
    try simp only [Act.put, List.setIfInBounds_toArray, List.set_cons_zero, List.set_cons_succ]
    refine HeldT.take (i := 14) (v := ?_) (by simp only [List.getElem?_toArray, List.getElem?_cons_succ, List.getElem?_cons_zero]; rfl) (by kernel_rfl) (by kernel_rfl) (by kernel_rfl) (by kernel_rfl) (by exact fun _ _ _ h => h) ?_ (by assumption) ?_
    rotate_left
    · refine Or.inl ⟨by rfl, ?_⟩
      (intro w hSw; (try dsimp only at hSw); go_simp; try with_reducible rfl)
    try simp only [Act.put, List.setIfInBounds_toArray, List.set_cons_zero, List.set_cons_succ]
    refine HeldT.take (i := 15) (v := ?_) (by simp only [List.getElem?_toArray, List.getElem?_cons_succ, List.getElem?_cons_zero]; rfl) (by kernel_rfl) (by kernel_rfl) (by kernel_rfl) (by kernel_rfl) (by exact fun _ _ _ h => h) ?_ (by assumption) ?_
    rotate_left
    · refine Or.inl ⟨by rfl, ?_⟩
      (intro w hSw; (try dsimp only at hSw); go_simp; try with_reducible rfl)
    try simp only [Act.put, List.setIfInBounds_toArray, List.set_cons_zero, List.set_cons_succ]
    refine HeldT.one (i := 16) (by simp only [List.getElem?_toArray, List.getElem?_cons_succ, List.getElem?_cons_zero]; rfl) (by kernel_rfl) (by kernel_rfl) (fun K hK => ?_)
    go_simp
    ((refine (HGS.out w1.drew HG1.out).mono ?_); rintro e w3 ⟨cap2, cells, rfl, ha, hb, hc, hd, he, hbel⟩; have hbel1 : Below w1.heap.size w1 w3 := (Below.refl w1.heap.size w1).drew.trans hbel; have r0 := (hbel1.cell (p := ⟨b, q, none⟩) hz1).trans k0; have r1 := (hbel1.cell (p := ⟨b, q + 1, none⟩) hz1).trans k1; have rf0 := (hbel1.frozen (p := ⟨b, q, none⟩) hz1).trans fq; have rf1 := (hbel1.frozen (p := ⟨b, q + 1, none⟩) hz1).trans fq1; have HBEL := Go.Lib.hid hbel1; have HA := Go.Lib.hid (And.intro ha (And.intro hb (And.intro hc (And.intro hd he)))); clear hbel ha hb hc)
    try go_wp2_with fail
    refine hK.out _ _ ?_ (fun hHeld => ?_)
    · (try dsimp only); first | done | (first | exact ⟨k0, k1⟩ | exact ⟨r0, r1⟩)
    clear hK K
    try simp only [Act.put, List.setIfInBounds_toArray, List.set_cons_zero, List.set_cons_succ]
    refine HeldT.tail (by kernel_rfl) rfl ?_
    clear hHeld
    have hz3 : b < w3.heap.size := Nat.lt_of_lt_of_le hz1 HBEL.out.size
    have t1 := (World.cell?_setCell_other w3 ⟨b, q, none⟩ ⟨b, q + 1, none⟩ (.slice (some ⟨w1.heap.size, 0, none⟩) m cap2) (by intro e; injection e with _ e2; omega)).trans r1
    have hup := upto_run (some ⟨w1.heap.size, 0, none⟩) m cap2 (m + n) ((m : Int) + (n : Int)) (by omega) hd
    go_wp2_with fail
    go_returns
    obtain ⟨ha, hb, hc, hd', he'⟩ := HA.out
    obtain ⟨X, hX⟩ : ∃ X, X = w3.setCell ⟨b, q, none⟩ (.slice (some ⟨w1.heap.size, 0, none⟩) m cap2) := ⟨_, rfl⟩
    have hne : w1.heap.size ≠ b := by omega
    have x0 : X.cell? ⟨b, q, none⟩ = some (.slice (some ⟨w1.heap.size, 0, none⟩) m cap2) := by rw [hX]; exact World.cell?_setCell_same' _ _ _ (by rw [r0]; rfl)
    have x1 : X.cell? ⟨b, q + 1, none⟩ = some (.int .i64 0) := by rw [hX]; exact t1
    have hKX : KeptB b q w X := by rw [hX]; exact (HK1.out.trans (.of HBEL.out hz1)).set _
    have y0 : (X.setCell ⟨b, q + 1, none⟩ (.int .i64 0)).cell? ⟨b, q, none⟩ = some (.slice (some ⟨w1.heap.size, 0, none⟩) m cap2) := (World.cell?_setCell_other _ _ _ _ (by intro e; injection e with _ e2; omega)).trans x0
    rw [← hX]
    refine ⟨w1.heap.size, cap2, cells, by rw [← HM.out]; rfl, ?_, ?_, hb, by rw [← HM.out]; exact hd', he', by rw [← HM.out, hc, HM.out]; exact HTK.out, hne, HSZ.out, (hKX.again (by omega) x1).set _⟩
    · rw [← HM.out]
      exact World.cell?_setCell_same' _ _ _ (by rw [y0]; rfl)
    · rw [Below.heap_setCell _ _ _ _ (by exact hne), Below.heap_setCell _ _ _ _ (by exact hne), hX, Below.heap_setCell _ _ _ _ (by exact hne)]
      exact ha
end Go.Proofs.YtbibokkclejapaaDoor
