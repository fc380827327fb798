/- A rune buffer in memory: what it holds, what its steps leave alone, append onto its own rows. -/
import Derived.Test.YtbkapklnfnopeaaDoorAsciiText
import Derived.Test.YtbkapklnfnopeaaDoorQuietTail
import Derived.Test.YtbkapklnfnopeaaDoorHeldTail
import Derived.Deep.AppendLies
import Derived.Laws.AppendOwnNone
import Derived.WalkSmall
namespace Go.Proofs.YtbkapklnfnopeaaDoor
open Go.RowKit
set_option linter.unusedVariables false
set_option linter.unusedSimpArgs false

def i32s (l : List Int) : List Value := l.map (Value.int .i32)
/-- A slice of code points that the call owns. -/
def Row (w : World) (base : Nat) (A : Option Addr) (cap : Nat) (l : List Int) : Prop := w.ownsRow base 21 1 (.slice A l.length cap) l.length (i32s l)
def blk (A : Option Addr) : Option Nat := A.map Addr.block
/-- A block of code points. -/
def I32 (w : World) (k : Nat) : Prop := ∃ cur fr, w.heap[k]? = some (.cells cur 21 fr)
theorem I32.of {w w' : World} {k : Nat} (h : I32 w k) (e : w'.heap[k]? = w.heap[k]?) : I32 w' k := by
  obtain ⟨cur, fr, h⟩ := h
  exact ⟨cur, fr, e.trans h⟩

theorem Row.own {w : World} {base : Nat} {A : Option Addr} {cap : Nat} {l : List Int} (h : Row w base A cap l) :
    (A = none ∧ cap = 0 ∧ l = []) ∨ ∃ g, A = some ⟨g, 0, none⟩ ∧ base ≤ g ∧ g < w.heap.size ∧ I32 w g ∧ l.length ≤ cap ∧ ∀ (j : Nat) (v : Int), l[j]? = some v → w.cell? ⟨g, j, none⟩ = some (.int .i32 v) := by
  rcases h.2 with ⟨h1, h2⟩ | ⟨g, c, cur, hv, hg, hh, hn, hc, hcs, htk⟩
  · simp only [Value.slice.injEq] at h1
    obtain ⟨rfl, _, rfl⟩ := h1
    exact .inl ⟨rfl, rfl, List.length_eq_zero_iff.1 h2⟩
  · cases hv
    refine .inr ⟨g, rfl, hg, (Array.getElem?_eq_some_iff.1 hh).1, ⟨_, _, hh⟩, hn, fun j v hj => ?_⟩
    have hjl := (List.getElem?_eq_some_iff.1 hj).1
    rw [World.cell?, hh]
    have := congrArg (·[j]?) htk
    simp [List.getElem?_take_of_lt (show j < l.length by omega), i32s, hj] at this
    simpa using this

/-- It is owned where its block is as it was. -/
theorem Row.kept {w w' : World} {base : Nat} {A : Option Addr} {cap : Nat} {l : List Int} (h : Row w base A cap l) (hk : ∀ k, base ≤ k → k < w.heap.size → I32 w k → blk A = some k → w'.heap[k]? = w.heap[k]?) : Row w' base A cap l := by
  refine ⟨h.1, ?_⟩
  rcases h.2 with h0 | ⟨g, c, cur, hv, hg, hh, r⟩
  · exact .inl h0
  · refine .inr ⟨g, c, cur, hv, hg, ?_, r⟩
    cases hv
    rw [hk g hg (Array.getElem?_eq_some_iff.1 hh).1 ⟨_, _, hh⟩ rfl]; exact hh

theorem Row.blk_lt {w : World} {base : Nat} {A : Option Addr} {cap : Nat} {l : List Int} (h : Row w base A cap l) {k : Nat} (hk : blk A = some k) : base ≤ k ∧ k < w.heap.size ∧ I32 w k := by
  rcases h.own with ⟨rfl, _⟩ | ⟨g, rfl, h1, h2, h3, _⟩
  · simp [blk] at hk
  · obtain rfl : g = k := by simpa [blk] using hk
    exact ⟨h1, h2, h3⟩

/-- The first some of them. -/
theorem Row.take {w : World} {base : Nat} {A : Option Addr} {cap : Nat} {l : List Int} (h : Row w base A cap l) (i : Nat) (hi : i ≤ l.length) : Row w base A cap (l.take i) := by
  have hl : (l.take i).length = i := by simp; omega
  unfold Row
  rw [hl]
  refine ⟨by simp [i32s]; omega, ?_⟩
  rcases h.2 with ⟨h1, h2⟩ | ⟨g, c, cur, hv, hg, hh, hn, hc, hcs, htk⟩
  · simp only [Value.slice.injEq] at h1
    obtain ⟨rfl, _, rfl⟩ := h1
    exact .inl ⟨by rw [show i = 0 by omega], by omega⟩
  · cases hv
    refine .inr ⟨g, cap, cur, rfl, hg, hh, by omega, hc, hcs, ?_⟩
    have := congrArg (List.take i) htk
    rw [List.take_take, Nat.mul_one, Nat.min_eq_left (by omega)] at this
    rw [Nat.mul_one, this]
    simp [i32s, List.map_take]

/-- What is read of a part of some owned row, or of any row that lies in memory: as append's source. -/
def Src (w : World) (B : Option Addr) (m c : Nat) (xs : List Int) : Prop :=
  m = xs.length ∧ ((B = none ∧ xs = [] ∧ c = 0) ∨ ∃ ad, B = some ad ∧ ∀ (j : Nat) (u : Value), (i32s xs)[j]? = some u → w.cell? (ad.add j) = some u)

theorem i32s_one (xs : List Int) : ∀ u ∈ i32s xs, u.oneCell' = true := by
  intro u hu
  obtain ⟨x, _, rfl⟩ := List.mem_map.1 hu
  rfl
theorem i32s_append (a b : List Int) : i32s (a ++ b) = i32s a ++ i32s b := by simp [i32s]

/-- append, onto a row that the call owns. -/
theorem run_append_row (w : World) (base : Nat) (A : Option Addr) (cap : Nat) (l : List Int) (hr : Row w base A cap l) (B : Option Addr) (m c : Nat) (xs : List Int) (hs : Src w B m c xs) (hb : base ≤ w.heap.size) (hlen : l.length + xs.length ≤ 1000000) :
    ∃ A' cap' w', (Builtin.append_ #[28, 28] 28 #[.slice A l.length cap, .slice B m c]).run Tryd.prog w = .ok (.slice A' (l ++ xs).length cap') w' ∧ Row w' base A' cap' (l ++ xs) ∧ w.grownBy w' (blk A) ∧ (blk A' = blk A ∨ blk A' = some w.heap.size) := by
  obtain ⟨ib, hib, hz0, hz1, hz2⟩ := info_parts (show (Tryd.prog.info? 21).map (fun i => (i.zero, i.size, i.bytes)) = some (some (.int .i32 0), 1, 4) by kernel_rfl)
  have hob : ∀ (X : Option Addr) (n k : Nat), Value.ownBlock (.slice X n k) = blk X := fun X n k => by cases X <;> rfl
  obtain ⟨rfl, hs⟩ := hs
  have fin : ∀ v' w', w'.ownsRow base 21 1 v' (l.length + xs.length) (i32s l ++ i32s xs) → (v'.ownBlock = blk A ∨ v'.ownBlock = some w.heap.size) → ∃ A' cap', v' = .slice A' (l ++ xs).length cap' ∧ Row w' base A' cap' (l ++ xs) ∧ (blk A' = blk A ∨ blk A' = some w.heap.size) := fun v' w' h h5 => by
    have hl : (l ++ xs).length = l.length + xs.length := by simp
    have hf : ∃ A' cap', v' = .slice A' (l ++ xs).length cap' := by
      rcases h.2 with ⟨h1, h2⟩ | ⟨g, c, cur, hv, _⟩
      · exact ⟨none, 0, by rw [h1, hl, h2]⟩
      · exact ⟨_, _, by rw [hv, hl]⟩
    obtain ⟨A', cap', rfl⟩ := hf
    rw [hob] at h5
    refine ⟨A', cap', rfl, ?_, h5⟩
    unfold Row
    rw [i32s_append]
    rw [hl] at h ⊢
    exact h
  rcases hs with ⟨rfl, rfl, rfl⟩ | ⟨ad, rfl, hc⟩
  · have h1 := run_append_owned_none (P := Tryd.prog) (w := w) base 28 28 21 ib 1 Tryd.underlying28 hib _ _ _ hr
    refine ⟨A, cap, w, ?_, by rw [List.append_nil]; exact hr, ⟨rfl, rfl, rfl, Nat.le_refl _, fun _ _ _ => rfl⟩, .inl rfl⟩
    rw [List.append_nil]; exact h1
  · obtain ⟨v', w', h1, h2, h3, _, h5⟩ := run_append_own_at (P := Tryd.prog) w base 28 28 21 ib (.int .i32 0) 1 4 Tryd.underlying28 hib hz0 hz1 hz2 rfl (by decide) _ _ _ hr ad xs.length c (i32s xs) (by simp [i32s]) hc (i32s_one _) (by unfold maxLen; omega) (by omega) hb
    rw [hob] at h3 h5
    obtain ⟨A', cap', rfl, h6, h7⟩ := fin v' w' h2 h5
    exact ⟨A', cap', w', h1, h6, h3, h7⟩

/-- A part of an owned row, as append's source: what a slice of it from a place on is. -/
theorem Row.src {w : World} {base : Nat} {A : Option Addr} {cap : Nat} {l : List Int} (h : Row w base A cap l) : Src w A l.length cap l := by
  refine ⟨rfl, ?_⟩
  rcases h.own with ⟨h1, h2, h3⟩ | ⟨g, rfl, _, _, _, _, hc⟩
  · exact .inl ⟨h1, h3, h2⟩
  · refine .inr ⟨_, rfl, fun j u hu => ?_⟩
    obtain ⟨x, hx, rfl⟩ : ∃ x, l[j]? = some x ∧ u = .int .i32 x := by
      simp [i32s] at hu
      obtain ⟨x, h1, h2⟩ := hu
      exact ⟨x, h1, h2.symm⟩
    have e : (⟨g, 0, none⟩ : Addr).add j = ⟨g, j, none⟩ := by
      unfold Addr.add
      by_cases e : j = 0
      · rw [if_pos e, e]
      · rw [if_neg e, Nat.zero_add]
    rw [e]; exact hc j x hx

/-- Where a slice of a row begins, from a place on. -/
def fromA (A : Option Addr) (cap i : Nat) : Option Addr := if cap = i then A else A.map fun a => a.add i

theorem run_from {P : Program} (t e : TypeId) (ht : P.underlying t = some (.slice e)) (hi : ∀ w, (sizeOf (P.elem t)).run P w = .ok 1 w) (A : Option Addr) (n cap i : Nat) (hl : i ≤ n) :
    ∀ w, (Instr.slice t (.slice A n cap) (some (.int .i64 (i : Nat))) none none).run P w = .ok (.slice (fromA A cap i) (n - i) (cap - i)) w := fun w => by
  have he : P.elem t = e := by simp [Program.elem, ht]
  rw [run_slice_l w t _ n cap (by rw [he]; exact ht) .i64 i (by omega) (by omega), hi]
  simp only [Result.andThen, sliced, Nat.mul_one, Int.toNat_natCast, fromA]

theorem sizeI (w : World) : (sizeOf (Tryd.prog.elem 28)).run Tryd.prog w = .ok 1 w := by kernel_rfl

theorem fromA_some (g cap i : Nat) : ∃ o, fromA (some ⟨g, 0, none⟩) cap i = some ⟨g, o, none⟩ ∧ (i < cap → o = i) := by
  unfold fromA
  by_cases h : cap = i
  · rw [if_pos h]; exact ⟨0, rfl, fun h' => by omega⟩
  · rw [if_neg h]
    refine ⟨i, ?_, fun _ => rfl⟩
    simp only [Option.map_some, Addr.add]
    by_cases h0 : i = 0
    · rw [if_pos h0, h0]
    · rw [if_neg h0, Nat.zero_add]

theorem row_src {w : World} {base : Nat} {A : Option Addr} {cap : Nat} {l : List Int} (h : Row w base A cap l) (i m : Nat) (him : i ≤ m) (hm : m ≤ l.length) : Src w (fromA A cap i) (m - i) (cap - i) ((l.take m).drop i) := by
  refine ⟨by simp; omega, ?_⟩
  rcases h.own with ⟨rfl, rfl, rfl⟩ | ⟨g, rfl, _, _, _, hle, hcl⟩
  · exact .inl ⟨by unfold fromA; split <;> rfl, by simp, by omega⟩
  · obtain ⟨o, hBo, ho⟩ := fromA_some g cap i
    refine .inr ⟨_, hBo, fun j u hu => ?_⟩
    obtain ⟨x, hx, rfl⟩ : ∃ x, ((l.take m).drop i)[j]? = some x ∧ u = .int .i32 x := by
      rw [i32s, List.getElem?_map] at hu
      obtain ⟨x, h1, h2⟩ := Option.map_eq_some_iff.1 hu
      exact ⟨x, h1, h2.symm⟩
    have hj : j < ((l.take m).drop i).length := (List.getElem?_eq_some_iff.1 hx).1
    simp at hj
    have hx2 : l[i + j]? = some x := by
      rw [List.getElem?_drop, List.getElem?_take_of_lt (by omega)] at hx
      exact hx
    rw [ho (by omega)]
    have e : (⟨g, i, none⟩ : Addr).add j = ⟨g, i + j, none⟩ := by
      unfold Addr.add
      by_cases e : j = 0
      · rw [if_pos e, e]; rfl
      · rw [if_neg e]
    rw [e]; exact hcl _ x hx2

/-- What a step of a rune buffer leaves alone: all but its own block, and rows of code points that lie behind it. -/
structure Own (rb : Nat) (w w' : World) : Prop where
  os : w'.os = w.os
  tape : w'.tape = w.tape
  output : w'.output = w.output
  size : w.heap.size ≤ w'.heap.size
  rest : ∀ k, k < w.heap.size → k ≠ rb → (k ≤ rb ∨ ¬ I32 w k) → w'.heap[k]? = w.heap[k]?
theorem Own.refl (rb : Nat) (w : World) : Own rb w w := ⟨rfl, rfl, rfl, Nat.le_refl _, fun _ _ _ _ => rfl⟩
theorem Own.trans {rb : Nat} {a b c : World} (h : Own rb a b) (k : Own rb b c) : Own rb a c :=
  ⟨k.os.trans h.os, k.tape.trans h.tape, k.output.trans h.output, Nat.le_trans h.size k.size, fun i hi h1 h2 =>
    have e := h.rest i hi h1 h2
    (k.rest i (Nat.lt_of_lt_of_le hi h.size) h1 (h2.imp id fun hn h' => hn (h'.of e.symm))).trans e⟩
theorem Own.of {rb : Nat} {w w' : World} (h : Below w.heap.size w w') : Own rb w w' := ⟨h.os, h.tape, h.output, h.size, fun k hk _ _ => h.block k hk⟩
theorem Own.after {rb : Nat} {a b c : World} (h : Own rb a b) (k : Below b.heap.size b c) : Own rb a c := h.trans (.of k)
theorem Own.drew {rb : Nat} {a w : World} (h : Own rb a w) : Own rb a w.drew := h.after (Below.refl _ _).drew
theorem Own.drewN {rb : Nat} {a w : World} (h : Own rb a w) (n : Nat) : Own rb a (w.drewN n) := h.after (below_drewN (Below.refl _ _) _)
theorem Own.alloc {rb : Nat} {a w : World} (h : Own rb a w) (o : Obj) : Own rb a (w.alloc o) := h.after ((Below.refl _ _).alloc (Nat.le_refl _) _)
theorem Own.set {rb : Nat} {a w : World} (h : Own rb a w) (o : Nat) (u : Value) : Own rb a (w.setCell ⟨rb, o, none⟩ u) :=
  h.trans ⟨rfl, rfl, rfl, by simp [World.setCell], fun k _ h1 _ => Below.heap_setCell _ _ _ _ h1⟩
theorem Own.grown {rb : Nat} {a w w' : World} (h : Own rb a w) {row : Option Nat} (hg : w.grownBy w' row) (hr : ∀ k, row = some k → rb < k ∧ I32 w k) : Own rb a w' :=
  h.trans ⟨hg.os, hg.tape, hg.output, hg.size, fun k hk h1 h2 => hg.block k hk fun e => by
    obtain ⟨h3, h4⟩ := hr k e.symm
    rcases h2 with h2 | h2
    · omega
    · exact h2 h4⟩
theorem Own.below {rb : Nat} {w w' : World} (h : Own rb w w') {B : Nat} (hB : B ≤ rb) (hz : B ≤ w.heap.size) : Below B w w' :=
  ⟨h.os, h.tape, h.output, h.size, fun k hk => h.rest k (by omega) (by omega) (.inl (by omega))⟩

/-- A rune buffer in block rb: the line, the cursor, what was taken out; where these lie. -/
structure RBv (w : World) (rb : Nat) (l : List Int) (k : Nat) (kept : List Int) (A : Option Addr) (cap : Nat) (B : Option Addr) (cap2 : Nat) : Prop where
  c0 : w.cell? ⟨rb, 0, none⟩ = some (.slice A l.length cap)
  c1 : w.cell? ⟨rb, 1, none⟩ = some (.int .i64 (k : Nat))
  c10 : w.cell? ⟨rb, 10, none⟩ = some (.slice B kept.length cap2)
  r0 : Row w (rb + 1) A cap l
  r10 : Row w (rb + 1) B cap2 kept
  ap : ∀ g, blk A = some g → blk B ≠ some g
  f : ∀ j, w.frozen? ⟨rb, j, none⟩ = false
  sz : rb < w.heap.size
  ni : ¬ I32 w rb
def RB (w : World) (rb : Nat) (l : List Int) (k : Nat) (kept : List Int) : Prop := ∃ A cap B cap2, RBv w rb l k kept A cap B cap2

theorem RBv.same {w w' : World} {rb : Nat} {l : List Int} {k : Nat} {kept : List Int} {A : Option Addr} {cap : Nat} {B : Option Addr} {cap2 : Nat} (h : RBv w rb l k kept A cap B cap2) (hz : w.heap.size ≤ w'.heap.size)
    (hk : ∀ k, k < w.heap.size → (k = rb ∨ (rb < k ∧ I32 w k)) → w'.heap[k]? = w.heap[k]?) : RBv w' rb l k kept A cap B cap2 := by
  have e := hk rb h.sz (.inl rfl)
  have c : ∀ j, w'.cell? ⟨rb, j, none⟩ = w.cell? ⟨rb, j, none⟩ := fun j => World.cell?_of_block (w := w) e
  exact ⟨(c _).trans h.c0, (c _).trans h.c1, (c _).trans h.c10, h.r0.kept fun k h1 h2 h3 _ => hk k h2 (.inr ⟨by omega, h3⟩), h.r10.kept fun k h1 h2 h3 _ => hk k h2 (.inr ⟨by omega, h3⟩), h.ap, fun j => (World.frozen?_of_block (w := w) e).trans (h.f j), by have := h.sz; omega, fun h' => h.ni (h'.of e.symm)⟩
theorem RBv.below {w w' : World} {rb : Nat} {l : List Int} {k : Nat} {kept : List Int} {A : Option Addr} {cap : Nat} {B : Option Addr} {cap2 : Nat} (h : RBv w rb l k kept A cap B cap2) (hb : Below w.heap.size w w') : RBv w' rb l k kept A cap B cap2 :=
  h.same hb.size fun k hk _ => hb.block k hk
theorem RB.below {w w' : World} {rb : Nat} {l : List Int} {k : Nat} {kept : List Int} (h : RB w rb l k kept) (hb : Below w.heap.size w w') : RB w' rb l k kept := by
  obtain ⟨A, cap, B, cap2, h⟩ := h
  exact ⟨A, cap, B, cap2, h.below hb⟩
theorem RB.same {w w' : World} {rb : Nat} {l : List Int} {k : Nat} {kept : List Int} (h : RB w rb l k kept) (hz : w.heap.size ≤ w'.heap.size)
    (hk : ∀ k, k < w.heap.size → (k = rb ∨ (rb < k ∧ I32 w k)) → w'.heap[k]? = w.heap[k]?) : RB w' rb l k kept := by
  obtain ⟨A, cap, B, cap2, h⟩ := h
  exact ⟨A, cap, B, cap2, h.same hz hk⟩

theorem i32_setCell {w : World} {a : Addr} {v : Value} {k : Nat} (h : I32 (w.setCell a v) k) : I32 w k := by
  obtain ⟨cur, fr, h⟩ := h
  by_cases e : k = a.block
  · subst e
    simp only [World.setCell, Array.getElem?_modify, if_true] at h
    cases hx : w.heap[a.block]? with
    | none => rw [hx] at h; simp at h
    | some o =>
      rw [hx] at h
      cases o <;> simp at h
      obtain ⟨_, rfl, _⟩ := h
      exact ⟨_, _, hx⟩
  · rw [Below.heap_setCell _ _ _ _ e] at h
    exact ⟨cur, fr, h⟩

/-- A store into the buffer's own block leaves its rows. -/
theorem Row.set {w : World} {rb : Nat} {A : Option Addr} {cap : Nat} {l : List Int} (h : Row w (rb + 1) A cap l) (o : Nat) (u : Value) : Row (w.setCell ⟨rb, o, none⟩ u) (rb + 1) A cap l :=
  h.kept fun k h1 _ _ _ => Below.heap_setCell _ _ _ _ (by show k ≠ rb; omega)

theorem RBv.idx {w : World} {rb : Nat} {l : List Int} {k : Nat} {kept : List Int} {A : Option Addr} {cap : Nat} {B : Option Addr} {cap2 : Nat} (h : RBv w rb l k kept A cap B cap2) (m : Nat) : RBv (w.setCell ⟨rb, 1, none⟩ (.int .i64 (m : Nat))) rb l m kept A cap B cap2 := by
  have o : ∀ j, j ≠ 1 → (w.setCell ⟨rb, 1, none⟩ (.int .i64 (m : Nat))).cell? ⟨rb, j, none⟩ = w.cell? ⟨rb, j, none⟩ := fun j hj => World.cell?_setCell_other _ _ _ _ (by intro e; have := congrArg Addr.off e; simp at this; omega)
  exact ⟨(o 0 (by omega)).trans h.c0, World.cell?_setCell_same' _ _ _ (by rw [h.c1]; rfl), (o 10 (by omega)).trans h.c10, h.r0.set _ _, h.r10.set _ _, h.ap, fun j => by rw [World.frozen?_setCell]; exact h.f j, by simpa [World.setCell] using h.sz, fun h' => h.ni (i32_setCell h')⟩

theorem RBv.buf {w : World} {rb : Nat} {l : List Int} {k : Nat} {kept : List Int} {A : Option Addr} {cap : Nat} {B : Option Addr} {cap2 : Nat} (h : RBv w rb l k kept A cap B cap2) {A' : Option Addr} {cap' : Nat} {l' : List Int} (hr : Row w (rb + 1) A' cap' l') (ap : ∀ g, blk A' = some g → blk B ≠ some g) :
    RBv (w.setCell ⟨rb, 0, none⟩ (.slice A' l'.length cap')) rb l' k kept A' cap' B cap2 := by
  have o : ∀ j, j ≠ 0 → (w.setCell ⟨rb, 0, none⟩ (.slice A' l'.length cap')).cell? ⟨rb, j, none⟩ = w.cell? ⟨rb, j, none⟩ := fun j hj => World.cell?_setCell_other _ _ _ _ (by intro e; have := congrArg Addr.off e; simp at this; omega)
  exact ⟨World.cell?_setCell_same' _ _ _ (by rw [h.c0]; rfl), (o 1 (by omega)).trans h.c1, (o 10 (by omega)).trans h.c10, hr.set _ _, h.r10.set _ _, ap, fun j => by rw [World.frozen?_setCell]; exact h.f j, by simpa [World.setCell] using h.sz, fun h' => h.ni (i32_setCell h')⟩

theorem RBv.kill {w : World} {rb : Nat} {l : List Int} {k : Nat} {kept : List Int} {A : Option Addr} {cap : Nat} {B : Option Addr} {cap2 : Nat} (h : RBv w rb l k kept A cap B cap2) {B' : Option Addr} {cap' : Nat} {l' : List Int} (hr : Row w (rb + 1) B' cap' l') (ap : ∀ g, blk A = some g → blk B' ≠ some g) :
    RBv (w.setCell ⟨rb, 10, none⟩ (.slice B' l'.length cap')) rb l k l' A cap B' cap' := by
  have o : ∀ j, j ≠ 10 → (w.setCell ⟨rb, 10, none⟩ (.slice B' l'.length cap')).cell? ⟨rb, j, none⟩ = w.cell? ⟨rb, j, none⟩ := fun j hj => World.cell?_setCell_other _ _ _ _ (by intro e; have := congrArg Addr.off e; simp at this; omega)
  exact ⟨(o 0 (by omega)).trans h.c0, (o 1 (by omega)).trans h.c1, World.cell?_setCell_same' _ _ _ (by rw [h.c10]; rfl), h.r0.set _ _, hr.set _ _, ap, fun j => by rw [World.frozen?_setCell]; exact h.f j, by simpa [World.setCell] using h.sz, fun h' => h.ni (i32_setCell h')⟩

/-- The line is another one, behind an append onto its row. -/
theorem RBv.appended {w w' : World} {rb : Nat} {l : List Int} {k : Nat} {kept : List Int} {A : Option Addr} {cap : Nat} {B : Option Addr} {cap2 : Nat} (h : RBv w rb l k kept A cap B cap2) (hg : w.grownBy w' (blk A))
    {A' : Option Addr} {cap' : Nat} {l' : List Int} (hr : Row w' (rb + 1) A' cap' l') (hb : blk A' = blk A ∨ blk A' = some w.heap.size) :
    RBv (w'.setCell ⟨rb, 0, none⟩ (.slice A' l'.length cap')) rb l' k kept A' cap' B cap2 ∧ Own rb w (w'.setCell ⟨rb, 0, none⟩ (.slice A' l'.length cap')) ∧
      (∀ j, w'.cell? ⟨rb, j, none⟩ = w.cell? ⟨rb, j, none⟩) ∧ (∀ j, w'.frozen? ⟨rb, j, none⟩ = w.frozen? ⟨rb, j, none⟩) ∧ Own rb w w' := by
  have hrow : ∀ k, blk A = some k → rb < k ∧ I32 w k := fun k hk => ⟨(h.r0.blk_lt hk).1, (h.r0.blk_lt hk).2.2⟩
  have e : w'.heap[rb]? = w.heap[rb]? := hg.block rb h.sz (fun e => by have := (hrow rb e.symm).1; omega)
  have c : ∀ j, w'.cell? ⟨rb, j, none⟩ = w.cell? ⟨rb, j, none⟩ := fun j => World.cell?_of_block (w := w) e
  have f : ∀ j, w'.frozen? ⟨rb, j, none⟩ = w.frozen? ⟨rb, j, none⟩ := fun j => World.frozen?_of_block (w := w) e
  have hown : Own rb w w' := (Own.refl _ _).grown hg hrow
  have o : ∀ j, j ≠ 0 → (w'.setCell ⟨rb, 0, none⟩ (.slice A' l'.length cap')).cell? ⟨rb, j, none⟩ = w'.cell? ⟨rb, j, none⟩ := fun j hj => World.cell?_setCell_other _ _ _ _ (by intro e; have := congrArg Addr.off e; simp at this; omega)
  have r10 : Row w' (rb + 1) B cap2 kept := h.r10.kept fun k h1 h2 _ h3 => hg.block k h2 (fun e => h.ap k e.symm h3)
  refine ⟨⟨World.cell?_setCell_same' _ _ _ (by rw [c, h.c0]; rfl), (o 1 (by omega)).trans ((c 1).trans h.c1), (o 10 (by omega)).trans ((c 10).trans h.c10), hr.set _ _, r10.set _ _, fun g hg' => ?_, fun j => by rw [World.frozen?_setCell, f]; exact h.f j, ?_, fun h' => h.ni ((i32_setCell h').of e.symm)⟩, hown.set _ _, c, f, hown⟩
  · rcases hb with hb | hb
    · exact h.ap g (by rw [← hb]; exact hg')
    · intro hB
      have := (h.r10.blk_lt hB).2.1
      rw [hb] at hg'
      have : w.heap.size = g := by simpa using hg'
      omega
  · have := hg.size; have := h.sz; simp [World.setCell]; omega

/-- What stands up to a place. -/
theorem run_upto {P : Program} (t e : TypeId) (ht : P.underlying t = some (.slice e)) (hi : ∀ w, (sizeOf (P.elem t)).run P w = .ok 1 w) (A : Option Addr) (n cap i : Nat) (hl : i ≤ cap) :
    ∀ w, (Instr.slice t (.slice A n cap) none (some (.int .i64 (i : Nat))) none).run P w = .ok (.slice A i cap) w := fun w => by
  have he : P.elem t = e := by simp [Program.elem, ht]
  rw [run_slice_h w t _ n cap (by rw [he]; exact ht) .i64 i (by omega) (by omega), hi]
  cases A <;> simp [Result.andThen, sliced, Addr.add]
theorem Row.le {w : World} {base : Nat} {A : Option Addr} {cap : Nat} {l : List Int} (h : Row w base A cap l) : l.length ≤ cap := by
  rcases h.own with ⟨_, h2, h3⟩ | ⟨g, _, _, _, _, h2, _⟩
  · rw [h3]; exact Nat.zero_le _
  · exact h2
end Go.Proofs.YtbkapklnfnopeaaDoor
