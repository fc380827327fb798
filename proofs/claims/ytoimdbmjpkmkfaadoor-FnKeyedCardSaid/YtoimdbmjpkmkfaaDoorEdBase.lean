/- spec.Editor in memory: what it holds, what its steps leave alone; NewEditor, Open, Bad, Line. -/
import Derived.Test.YtoimdbmjpkmkfaaDoorRbScript
import Derived.Test.YtoimdbmjpkmkfaaDoorMovePl
namespace Go.Proofs.YtoimdbmjpkmkfaaDoor
open Go.RowKit
set_option linter.unusedVariables false
set_option linter.unusedSimpArgs false

theorem i32_set {w : World} {a : Addr} {v : Value} {k : Nat} (h : I32 w k) : I32 (w.setCell a v) k := by
  obtain ⟨cur, fr, h⟩ := h
  by_cases e : k = a.block
  · subst e
    unfold I32
    simp only [World.setCell, Array.getElem?_modify, if_true, h]
    exact ⟨_, _, rfl⟩
  · exact ⟨cur, fr, (Below.heap_setCell _ _ _ _ e).trans h⟩
/-- A row of code points that lies apart from a block. -/
def Rw (w : World) (eb : Nat) (A : Option Addr) (l : List Int) : Prop :=
  l = [] ∨ ∃ b off, A = some ⟨b, off, none⟩ ∧ b < w.heap.size ∧ (b ≠ eb ∧ I32 w b) ∧ ∀ i, i < l.length → w.cell? ⟨b, off + i, none⟩ = some (.int .i32 (nth l i))
theorem Rw.kept {w w' : World} {eb : Nat} {A : Option Addr} {l : List Int} (h : Rw w eb A l) (hz : w.heap.size ≤ w'.heap.size) (hk : ∀ k, k < w.heap.size → k ≠ eb → w'.heap[k]? = w.heap[k]?) : Rw w' eb A l := by
  rcases h with h | ⟨b, off, ha, hl, hn, hc⟩
  · exact .inl h
  · exact .inr ⟨b, off, ha, by omega, ⟨hn.1, hn.2.of (hk b hl hn.1)⟩, fun i hi => (World.cell?_of_block (w := w) (hk b hl hn.1)).trans (hc i hi)⟩

structure EdV (w : World) (eb : Nat) (l : List Int) (k : Nat) (kept : List Int) (bad op : Bool) (A : Option Addr) (cap : Nat) (B : Option Addr) (cap2 : Nat) : Prop where
  c0 : w.cell? ⟨eb, 0, none⟩ = some (.slice A l.length cap)
  c1 : w.cell? ⟨eb, 1, none⟩ = some (.int .i64 (k : Nat))
  c2 : w.cell? ⟨eb, 2, none⟩ = some (.slice B kept.length cap2)
  c3 : w.cell? ⟨eb, 3, none⟩ = some (.bool bad)
  c4 : w.cell? ⟨eb, 4, none⟩ = some (.bool op)
  r0 : Rw w eb A l
  r2 : Rw w eb B kept
  lc : l.length ≤ cap
  lc2 : kept.length ≤ cap2
  n0 : A = none → cap = 0
  n2 : B = none → cap2 = 0
  f : ∀ j, w.frozen? ⟨eb, j, none⟩ = false
  sz : eb < w.heap.size
/-- An editor in block eb. -/
def Ed (w : World) (eb : Nat) (l : List Int) (k : Nat) (kept : List Int) (bad op : Bool) : Prop := ∃ A cap B cap2, EdV w eb l k kept bad op A cap B cap2

theorem EdV.same {w w' : World} {eb : Nat} {l : List Int} {k : Nat} {kept : List Int} {bad op : Bool} {A : Option Addr} {cap : Nat} {B : Option Addr} {cap2 : Nat} (h : EdV w eb l k kept bad op A cap B cap2) (hb : Below w.heap.size w w') : EdV w' eb l k kept bad op A cap B cap2 := by
  have e := hb.block eb h.sz
  have c : ∀ j, w'.cell? ⟨eb, j, none⟩ = w.cell? ⟨eb, j, none⟩ := fun j => World.cell?_of_block (w := w) e
  exact ⟨(c _).trans h.c0, (c _).trans h.c1, (c _).trans h.c2, (c _).trans h.c3, (c _).trans h.c4, h.r0.kept hb.size fun k hk _ => hb.block k hk, h.r2.kept hb.size fun k hk _ => hb.block k hk, h.lc, h.lc2, h.n0, h.n2, fun j => (World.frozen?_of_block (w := w) e).trans (h.f j), Nat.lt_of_lt_of_le h.sz hb.size⟩
theorem Ed.same {w w' : World} {eb : Nat} {l : List Int} {k : Nat} {kept : List Int} {bad op : Bool} (h : Ed w eb l k kept bad op) (hb : Below w.heap.size w w') : Ed w' eb l k kept bad op := by
  obtain ⟨A, cap, B, cap2, h⟩ := h
  exact ⟨A, cap, B, cap2, h.same hb⟩
theorem set_other {w : World} {eb : Nat} {j i : Nat} {u : Value} (h : i ≠ j) : (w.setCell ⟨eb, j, none⟩ u).cell? ⟨eb, i, none⟩ = w.cell? ⟨eb, i, none⟩ := World.cell?_setCell_other _ _ _ _ (by intro e; injection e with _ e2; first | exact h e2 | exact h e2.symm)
theorem set_same {w : World} {eb : Nat} {j : Nat} {u v : Value} (h : w.cell? ⟨eb, j, none⟩ = some v) : (w.setCell ⟨eb, j, none⟩ u).cell? ⟨eb, j, none⟩ = some u := World.cell?_setCell_same' _ _ _ (by rw [h]; rfl)
theorem Rw.set {w : World} {eb : Nat} {A : Option Addr} {l : List Int} (h : Rw w eb A l) (j : Nat) (u : Value) : Rw (w.setCell ⟨eb, j, none⟩ u) eb A l := h.kept (by simp [World.setCell]) fun k _ hk => Below.heap_setCell _ _ _ _ hk
theorem set_frozen {w : World} {a b : Addr} {u : Value} : (w.setCell a u).frozen? b = w.frozen? b := World.frozen?_setCell _ _ _ _
theorem EdV.at {w : World} {eb : Nat} {l : List Int} {k : Nat} {kept : List Int} {bad op : Bool} {A : Option Addr} {cap : Nat} {B : Option Addr} {cap2 : Nat} (h : EdV w eb l k kept bad op A cap B cap2) (i : Nat) : EdV (w.setCell ⟨eb, 1, none⟩ (.int .i64 (i : Nat))) eb l i kept bad op A cap B cap2 :=
  ⟨(set_other (by decide)).trans h.c0, set_same h.c1, (set_other (by decide)).trans h.c2, (set_other (by decide)).trans h.c3, (set_other (by decide)).trans h.c4, h.r0.set _ _, h.r2.set _ _, h.lc, h.lc2, h.n0, h.n2, fun j => set_frozen.trans (h.f j), by simpa [World.setCell] using h.sz⟩
theorem EdV.setBad {w : World} {eb : Nat} {l : List Int} {k : Nat} {kept : List Int} {bad op : Bool} {A : Option Addr} {cap : Nat} {B : Option Addr} {cap2 : Nat} (h : EdV w eb l k kept bad op A cap B cap2) (b : Bool) : EdV (w.setCell ⟨eb, 3, none⟩ (.bool b)) eb l k kept b op A cap B cap2 :=
  ⟨(set_other (by decide)).trans h.c0, (set_other (by decide)).trans h.c1, (set_other (by decide)).trans h.c2, set_same h.c3, (set_other (by decide)).trans h.c4, h.r0.set _ _, h.r2.set _ _, h.lc, h.lc2, h.n0, h.n2, fun j => set_frozen.trans (h.f j), by simpa [World.setCell] using h.sz⟩
theorem EdV.setOpen {w : World} {eb : Nat} {l : List Int} {k : Nat} {kept : List Int} {bad op : Bool} {A : Option Addr} {cap : Nat} {B : Option Addr} {cap2 : Nat} (h : EdV w eb l k kept bad op A cap B cap2) (b : Bool) : EdV (w.setCell ⟨eb, 4, none⟩ (.bool b)) eb l k kept bad b A cap B cap2 :=
  ⟨(set_other (by decide)).trans h.c0, (set_other (by decide)).trans h.c1, (set_other (by decide)).trans h.c2, (set_other (by decide)).trans h.c3, set_same h.c4, h.r0.set _ _, h.r2.set _ _, h.lc, h.lc2, h.n0, h.n2, fun j => set_frozen.trans (h.f j), by simpa [World.setCell] using h.sz⟩
theorem EdV.line {w : World} {eb : Nat} {l : List Int} {k : Nat} {kept : List Int} {bad op : Bool} {A : Option Addr} {cap : Nat} {B : Option Addr} {cap2 : Nat} (h : EdV w eb l k kept bad op A cap B cap2) {A' : Option Addr} {cap' : Nat} {l' : List Int} (hr : Rw w eb A' l') (hl : l'.length ≤ cap') (hn : A' = none → cap' = 0) : EdV (w.setCell ⟨eb, 0, none⟩ (.slice A' l'.length cap')) eb l' k kept bad op A' cap' B cap2 :=
  ⟨set_same h.c0, (set_other (by decide)).trans h.c1, (set_other (by decide)).trans h.c2, (set_other (by decide)).trans h.c3, (set_other (by decide)).trans h.c4, hr.set _ _, h.r2.set _ _, hl, h.lc2, hn, h.n2, fun j => set_frozen.trans (h.f j), by simpa [World.setCell] using h.sz⟩
theorem EdV.keep {w : World} {eb : Nat} {l : List Int} {k : Nat} {kept : List Int} {bad op : Bool} {A : Option Addr} {cap : Nat} {B : Option Addr} {cap2 : Nat} (h : EdV w eb l k kept bad op A cap B cap2) {B' : Option Addr} {cap' : Nat} {l' : List Int} (hr : Rw w eb B' l') (hl : l'.length ≤ cap') (hn : B' = none → cap' = 0) : EdV (w.setCell ⟨eb, 2, none⟩ (.slice B' l'.length cap')) eb l k l' bad op A cap B' cap' :=
  ⟨(set_other (by decide)).trans h.c0, (set_other (by decide)).trans h.c1, set_same h.c2, (set_other (by decide)).trans h.c3, (set_other (by decide)).trans h.c4, h.r0.set _ _, hr.set _ _, h.lc, hl, h.n0, hn, fun j => set_frozen.trans (h.f j), by simpa [World.setCell] using h.sz⟩

/-- What a step of an editor leaves alone: all but its own block. -/
structure EdK (eb : Nat) (w w' : World) : Prop where
  os : w'.os = w.os
  tape : w'.tape = w.tape
  output : w'.output = w.output
  size : w.heap.size ≤ w'.heap.size
  rest : ∀ k, k < w.heap.size → k ≠ eb → w'.heap[k]? = w.heap[k]?
theorem EdK.refl (eb : Nat) (w : World) : EdK eb w w := ⟨rfl, rfl, rfl, Nat.le_refl _, fun _ _ _ => rfl⟩
theorem EdK.trans {eb : Nat} {a b c : World} (h : EdK eb a b) (k : EdK eb b c) : EdK eb a c :=
  ⟨k.os.trans h.os, k.tape.trans h.tape, k.output.trans h.output, Nat.le_trans h.size k.size, fun i hi h1 => (k.rest i (Nat.lt_of_lt_of_le hi h.size) h1).trans (h.rest i hi h1)⟩
theorem EdK.of {eb : Nat} {w w' : World} (h : Below w.heap.size w w') : EdK eb w w' := ⟨h.os, h.tape, h.output, h.size, fun k hk _ => h.block k hk⟩
theorem EdK.drewN {eb : Nat} {a w : World} (h : EdK eb a w) (n : Nat) : EdK eb a (w.drewN n) := h.trans (.of (below_drewN (Below.refl _ _) _))
theorem EdK.alloc {eb : Nat} {a w : World} (h : EdK eb a w) (o : Obj) : EdK eb a (w.alloc o) := h.trans (.of ((Below.refl _ _).alloc (Nat.le_refl _) _))
theorem EdK.set {eb : Nat} {a w : World} (h : EdK eb a w) (o : Nat) (u : Value) : EdK eb a (w.setCell ⟨eb, o, none⟩ u) :=
  h.trans ⟨rfl, rfl, rfl, by simp [World.setCell], fun k _ h1 => Below.heap_setCell _ _ _ _ h1⟩
theorem EdK.below {eb : Nat} {w w' : World} (h : EdK eb w w') {B : Nat} (hB : B ≤ eb) (hz : B ≤ w.heap.size) : Below B w w' :=
  ⟨h.os, h.tape, h.output, h.size, fun k hk => h.rest k (by omega) (by omega)⟩

def NewEdPost (l : List Int) (k : Nat) (w : World) (e : Ending) (w' : World) : Prop := ∃ eb, e = .returned (.tuple #[.pointer (some ⟨eb, 0, none⟩), .bool true]) ∧ w.heap.size ≤ eb ∧ Ed w' eb l k [] false false ∧ Below w.heap.size w w'

set_option maxHeartbeats 1000000 in
theorem newEditor_any (s : ByteArray) (k : Nat) (w : World) (hs : s.size ≤ 100000) (hk : k ≤ (runes s).length) : Calls Tryd.prog 5 #[.string s, .int .i64 (k : Nat)] w (NewEdPost (runes s) k w) := by
  have hc := fun w => run_runes (P := Tryd.prog) w 9 38 21 s Tryd.underlying9 Tryd.underlying38 Tryd.underlying21 (by omega)
  have hrow : Hid (∀ j, j < (runes s).length → (runeCells s (runeCap w 21 s))[j]? = some (.int .i32 (nth (runes s) j))) := fun j hj => runeCells_at s _ j hj
  have hge := runeCap_ge w 21 s
  have hln := runes_length s
  generalize runes s = l at hc hrow hk hge hln
  have hd : decide ((k : Int) ≤ (l.length : Int)) = true := by simp; omega
  have hk0 : (0 : Int) ≤ k := by omega
  generalize hcap : runeCap w 21 s = cap at hge hrow
  generalize hcells : runeCells s cap = cells at hrow
  go_enter Tryd.func5, Tryd.ntmps5
  go_wp2_with fail
  go_returns
  have hb1 : Below w.heap.size w (w.alloc (.cells cells 21)).drew := ((Below.refl _ _).alloc (Nat.le_refl _) _).drew
  refine ⟨w.heap.size + 1, rfl, by omega, ⟨some ⟨w.heap.size, 0, none⟩, cap, none, 0, by simp [go_sem], by simp [go_sem], by simp [go_sem], by simp [go_sem], by simp [go_sem], .inr ⟨_, 0, rfl, (by simp <;> omega), ⟨by omega, _, _, (Below.heap_alloc _ _ _ (by simp)).trans (heap_alloc_new w _)⟩, fun i hi => ?_⟩, .inl rfl, hge, Nat.le_refl _, (fun h => by cases h), fun _ => rfl, fun j => by simp [go_sem], by simp⟩, ?_⟩
  · simp [go_sem]; exact hrow.out i hi
  · exact hb1.alloc (by simp) _

theorem open_any (eb : Nat) (l : List Int) (k : Nat) (kept : List Int) (bad op : Bool) (w : World) (h : Ed w eb l k kept bad op) : Calls Tryd.prog 8 #[.pointer (some ⟨eb, 0, none⟩)] w fun e w' => e = .returned (.bool op) ∧ w = w' := by
  obtain ⟨A, cap, B, cap2, h⟩ := h
  have c4 := h.c4
  clear h
  go_enter Tryd.func8, Tryd.ntmps8
  go_wp2_with fail
  go_returns
  exact ⟨rfl, rfl⟩
theorem bad_any (eb : Nat) (l : List Int) (k : Nat) (kept : List Int) (bad op : Bool) (w : World) (h : Ed w eb l k kept bad op) : Calls Tryd.prog 11 #[.pointer (some ⟨eb, 0, none⟩)] w fun e w' => e = .returned (.bool bad) ∧ w = w' := by
  obtain ⟨A, cap, B, cap2, h⟩ := h
  have c3 := h.c3
  clear h
  go_enter Tryd.func11, Tryd.ntmps11
  go_wp2_with fail
  go_returns
  exact ⟨rfl, rfl⟩
theorem add_flat0 (b off j : Nat) : (⟨b, off, none⟩ : Addr).add j = ⟨b, off + j, none⟩ := by
  unfold Addr.add
  by_cases e : j = 0
  · rw [if_pos e, e]; rfl
  · rw [if_neg e]
theorem rw_convert (W : World) (eb : Nat) (A : Option Addr) (l : List Int) (cap : Nat) (h : Rw W eb A l) :
    (convert 38 9 (.slice A l.length cap)).run Tryd.prog W = .ok (.string (runesBytes l)) W := by
  rcases h with rfl | ⟨b, off, rfl, _, _, hc⟩
  · rcases A with _ | ad
    · exact run_convert_runes_nil (P := Tryd.prog) W 38 9 21 0 cap Tryd.underlying38 Tryd.underlying21 Tryd.underlying9
    · exact run_convert_runes (P := Tryd.prog) W 38 9 21 ad 0 cap [] (Nat.le_refl _) Tryd.underlying38 Tryd.underlying21 Tryd.underlying9 (fun j hj => by simp at hj)
  · have := run_convert_runes (P := Tryd.prog) W 38 9 21 ⟨b, off, none⟩ l.length cap l (Nat.le_refl _) Tryd.underlying38 Tryd.underlying21 Tryd.underlying9 (fun j hj => by rw [add_flat0]; exact hc j hj)
    simpa using this
theorem line_any (eb : Nat) (l : List Int) (k : Nat) (kept : List Int) (bad op : Bool) (w : World) (h : Ed w eb l k kept bad op) : Calls Tryd.prog 9 #[.pointer (some ⟨eb, 0, none⟩)] w fun e w' => e = .returned (.agg #[.string (runesBytes l), .int .i64 (k : Nat)]) ∧ Below w.heap.size w w' := by
  obtain ⟨A, cap, B, cap2, h⟩ := h
  have c0 := h.c0
  have c1 := h.c1
  have sz := h.sz
  have hcv : ∀ W, Below w.heap.size w W → (convert 38 9 (.slice A l.length cap)).run Tryd.prog W = .ok (.string (runesBytes l)) W := fun W hb => rw_convert W eb A l cap (h.same hb).r0
  have hcv2 := hcv (w.alloc (.cells #[.string ⟨#[]⟩, .int .i64 0] 34)) ((Below.refl _ _).alloc (Nat.le_refl _) _)
  have hcv3 : ∀ n, (convert 38 9 (.slice A l.length cap)).run Tryd.prog ((w.alloc (.cells #[.string ⟨#[]⟩, .int .i64 0] 34)).drewN n) = _ := fun n => hcv _ (below_drewN ((Below.refl _ _).alloc (Nat.le_refl _) _) n)
  clear h hcv
  generalize runesBytes l = u at hcv2 hcv3 ⊢
  generalize l.length = n at c0 hcv2 hcv3
  go_enter Tryd.func9, Tryd.ntmps9
  go_wp2_with fail
  refine region_quiet_tail 10 (by kernel_rfl) (by kernel_rfl) ?_
  simp only [List.take_succ_cons, List.take_zero, List.drop_succ_cons, List.drop_zero]
  repeat (go_big_quiet_step (fail))
  refine wpQuiet_nil ?_
  intro _ hw'
  obtain ⟨nq, hw''⟩ := hw'
  subst hw''
  go_wp2_with fail
  have hb : Below w.heap.size w ((((w.alloc (.cells #[.string ⟨#[]⟩, .int .i64 0] 34)).drewN nq).setCell ⟨w.heap.size, 0, none⟩ (.string u)).setCell ⟨w.heap.size, 1, none⟩ (.int .i64 (k : Nat))) :=
    ((below_drewN ((Below.refl _ _).alloc (Nat.le_refl _) _) nq).setCell (Nat.le_refl _) _).setCell (Nat.le_refl _) _
  have p0 : ((w.alloc (.cells #[.string ⟨#[]⟩, .int .i64 0] 34)).drewN nq).cell? ⟨w.heap.size, 0, none⟩ = some (.string ⟨#[]⟩) := by simp [go_sem]
  have p1 : ((w.alloc (.cells #[.string ⟨#[]⟩, .int .i64 0] 34)).drewN nq).cell? ⟨w.heap.size, 1, none⟩ = some (.int .i64 0) := by simp [go_sem]
  have q0 := (set_other (w := ((w.alloc (.cells #[.string ⟨#[]⟩, .int .i64 0] 34)).drewN nq).setCell ⟨w.heap.size, 0, none⟩ (.string u)) (eb := w.heap.size) (j := 1) (i := 0) (u := .int .i64 (k : Nat)) (by decide)).trans (set_same (u := .string u) p0)
  have q1 := set_same (w := ((w.alloc (.cells #[.string ⟨#[]⟩, .int .i64 0] 34)).drewN nq).setCell ⟨w.heap.size, 0, none⟩ (.string u)) (eb := w.heap.size) (j := 1) (u := .int .i64 (k : Nat)) ((set_other (by decide)).trans p1)
  clear p0 p1 hcv2 hcv3 c0 c1
  generalize ((((w.alloc (.cells #[.string ⟨#[]⟩, .int .i64 0] 34)).drewN nq).setCell ⟨w.heap.size, 0, none⟩ (.string u)).setCell ⟨w.heap.size, 1, none⟩ (.int .i64 (k : Nat))) = W at hb q0 q1 ⊢
  exact bodyPost_ret (v := .agg #[.string u, .int .i64 (k : Nat)]) (by simp [results, Tryd.results9, go_sem, q0, q1]) rfl ⟨rfl, hb⟩
end Go.Proofs.YtoimdbmjpkmkfaaDoor
