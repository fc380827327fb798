/- Rows of bytes that the call owns, append onto them (printed out of RbBase by wip/gen/mkvtrow.py). -/
import Derived.Test.YtjdphehphceegaaWords
import Derived.Test.YtjdphehphceegaaQuietTail
import Derived.Test.YtjdphehphceegaaHeldTail
import Derived.Deep.AppendLies
import Derived.Laws.AppendOwnNone
import Derived.WalkSmall
namespace Go.Proofs.Ytjdphehphceegaa
open Go.RowKit
set_option linter.unusedVariables false
set_option linter.unusedSimpArgs false

def u8s (l : List Int) : List Value := l.map (Value.int .u8)
/-- A slice of code points that the call owns. -/
def BRow (w : World) (base : Nat) (A : Option Addr) (cap : Nat) (l : List Int) : Prop := w.ownsRow base 5 1 (.slice A l.length cap) l.length (u8s l)
def blkB (A : Option Addr) : Option Nat := A.map Addr.block
/-- A block of code points. -/
def U8B (w : World) (k : Nat) : Prop := ∃ cur fr, w.heap[k]? = some (.cells cur 5 fr)
theorem U8B.of {w w' : World} {k : Nat} (h : U8B w k) (e : w'.heap[k]? = w.heap[k]?) : U8B w' k := by
  obtain ⟨cur, fr, h⟩ := h
  exact ⟨cur, fr, e.trans h⟩

theorem BRow.own {w : World} {base : Nat} {A : Option Addr} {cap : Nat} {l : List Int} (h : BRow w base A cap l) :
    (A = none ∧ cap = 0 ∧ l = []) ∨ ∃ g, A = some ⟨g, 0, none⟩ ∧ base ≤ g ∧ g < w.heap.size ∧ U8B w g ∧ l.length ≤ cap ∧ ∀ (j : Nat) (v : Int), l[j]? = some v → w.cell? ⟨g, j, none⟩ = some (.int .u8 v) := by
  rcases h.2 with ⟨h1, h2⟩ | ⟨g, c, cur, hv, hg, hh, hn, hc, hcs, htk⟩
  · simp only [Value.slice.injEq] at h1
    obtain ⟨rfl, _, rfl⟩ := h1
    exact .inl ⟨rfl, rfl, List.length_eq_zero_iff.1 h2⟩
  · cases hv
    refine .inr ⟨g, rfl, hg, (Array.getElem?_eq_some_iff.1 hh).1, ⟨_, _, hh⟩, hn, fun j v hj => ?_⟩
    have hjl := (List.getElem?_eq_some_iff.1 hj).1
    rw [World.cell?, hh]
    have := congrArg (·[j]?) htk
    simp [List.getElem?_take_of_lt (show j < l.length by omega), u8s, hj] at this
    simpa using this

/-- It is owned where its block is as it was. -/
theorem BRow.kept {w w' : World} {base : Nat} {A : Option Addr} {cap : Nat} {l : List Int} (h : BRow w base A cap l) (hk : ∀ k, base ≤ k → k < w.heap.size → U8B w k → blkB A = some k → w'.heap[k]? = w.heap[k]?) : BRow w' base A cap l := by
  refine ⟨h.1, ?_⟩
  rcases h.2 with h0 | ⟨g, c, cur, hv, hg, hh, r⟩
  · exact .inl h0
  · refine .inr ⟨g, c, cur, hv, hg, ?_, r⟩
    cases hv
    rw [hk g hg (Array.getElem?_eq_some_iff.1 hh).1 ⟨_, _, hh⟩ rfl]; exact hh

theorem BRow.blk_lt {w : World} {base : Nat} {A : Option Addr} {cap : Nat} {l : List Int} (h : BRow w base A cap l) {k : Nat} (hk : blkB A = some k) : base ≤ k ∧ k < w.heap.size ∧ U8B w k := by
  rcases h.own with ⟨rfl, _⟩ | ⟨g, rfl, h1, h2, h3, _⟩
  · simp [blkB] at hk
  · obtain rfl : g = k := by simpa [blkB] using hk
    exact ⟨h1, h2, h3⟩

/-- The first some of them. -/
theorem BRow.take {w : World} {base : Nat} {A : Option Addr} {cap : Nat} {l : List Int} (h : BRow w base A cap l) (i : Nat) (hi : i ≤ l.length) : BRow w base A cap (l.take i) := by
  have hl : (l.take i).length = i := by simp; omega
  unfold BRow
  rw [hl]
  refine ⟨by simp [u8s]; omega, ?_⟩
  rcases h.2 with ⟨h1, h2⟩ | ⟨g, c, cur, hv, hg, hh, hn, hc, hcs, htk⟩
  · simp only [Value.slice.injEq] at h1
    obtain ⟨rfl, _, rfl⟩ := h1
    exact .inl ⟨by rw [show i = 0 by omega], by omega⟩
  · cases hv
    refine .inr ⟨g, cap, cur, rfl, hg, hh, by omega, hc, hcs, ?_⟩
    have := congrArg (List.take i) htk
    rw [List.take_take, Nat.mul_one, Nat.min_eq_left (by omega)] at this
    rw [Nat.mul_one, this]
    simp [u8s, List.map_take]

/-- What is read of a part of some owned row, or of any row that lies in memory: as append's source. -/
def BSrc (w : World) (B : Option Addr) (m c : Nat) (xs : List Int) : Prop :=
  m = xs.length ∧ ((B = none ∧ xs = [] ∧ c = 0) ∨ ∃ ad, B = some ad ∧ ∀ (j : Nat) (u : Value), (u8s xs)[j]? = some u → w.cell? (ad.add j) = some u)

theorem u8s_one (xs : List Int) : ∀ u ∈ u8s xs, u.oneCell' = true := by
  intro u hu
  obtain ⟨x, _, rfl⟩ := List.mem_map.1 hu
  rfl
theorem u8s_append (a b : List Int) : u8s (a ++ b) = u8s a ++ u8s b := by simp [u8s]

/-- append, onto a row that the call owns. -/
theorem run_append_rowB (w : World) (base : Nat) (A : Option Addr) (cap : Nat) (l : List Int) (hr : BRow w base A cap l) (B : Option Addr) (m c : Nat) (xs : List Int) (hs : BSrc w B m c xs) (hb : base ≤ w.heap.size) (hlen : l.length + xs.length ≤ 1000000) :
    ∃ A' cap' w', (Builtin.append_ #[43, 43] 43 #[.slice A l.length cap, .slice B m c]).run Try.prog w = .ok (.slice A' (l ++ xs).length cap') w' ∧ BRow w' base A' cap' (l ++ xs) ∧ w.grownBy w' (blkB A) ∧ (blkB A' = blkB A ∨ blkB A' = some w.heap.size) := by
  obtain ⟨ib, hib, hz0, hz1, hz2⟩ := info_parts (show (Try.prog.info? 5).map (fun i => (i.zero, i.size, i.bytes)) = some (some (.int .u8 0), 1, 1) by kernel_rfl)
  have hob : ∀ (X : Option Addr) (n k : Nat), Value.ownBlock (.slice X n k) = blkB X := fun X n k => by cases X <;> rfl
  obtain ⟨rfl, hs⟩ := hs
  have fin : ∀ v' w', w'.ownsRow base 5 1 v' (l.length + xs.length) (u8s l ++ u8s xs) → (v'.ownBlock = blkB A ∨ v'.ownBlock = some w.heap.size) → ∃ A' cap', v' = .slice A' (l ++ xs).length cap' ∧ BRow w' base A' cap' (l ++ xs) ∧ (blkB A' = blkB A ∨ blkB A' = some w.heap.size) := fun v' w' h h5 => by
    have hl : (l ++ xs).length = l.length + xs.length := by simp
    have hf : ∃ A' cap', v' = .slice A' (l ++ xs).length cap' := by
      rcases h.2 with ⟨h1, h2⟩ | ⟨g, c, cur, hv, _⟩
      · exact ⟨none, 0, by rw [h1, hl, h2]⟩
      · exact ⟨_, _, by rw [hv, hl]⟩
    obtain ⟨A', cap', rfl⟩ := hf
    rw [hob] at h5
    refine ⟨A', cap', rfl, ?_, h5⟩
    unfold BRow
    rw [u8s_append]
    rw [hl] at h ⊢
    exact h
  rcases hs with ⟨rfl, rfl, rfl⟩ | ⟨ad, rfl, hc⟩
  · have h1 := run_append_owned_none (P := Try.prog) (w := w) base 43 43 5 ib 1 Try.underlying43 hib _ _ _ hr
    refine ⟨A, cap, w, ?_, by rw [List.append_nil]; exact hr, ⟨rfl, rfl, rfl, Nat.le_refl _, fun _ _ _ => rfl⟩, .inl rfl⟩
    rw [List.append_nil]; exact h1
  · obtain ⟨v', w', h1, h2, h3, _, h5⟩ := run_append_own_at (P := Try.prog) w base 43 43 5 ib (.int .u8 0) 1 1 Try.underlying43 hib hz0 hz1 hz2 rfl (by decide) _ _ _ hr ad xs.length c (u8s xs) (by simp [u8s]) hc (u8s_one _) (by unfold maxLen; omega) (by omega) hb
    rw [hob] at h3 h5
    obtain ⟨A', cap', rfl, h6, h7⟩ := fin v' w' h2 h5
    exact ⟨A', cap', w', h1, h6, h3, h7⟩

/-- A part of an owned row, as append's source: what a slice of it from a place on is. -/
theorem BRow.src {w : World} {base : Nat} {A : Option Addr} {cap : Nat} {l : List Int} (h : BRow w base A cap l) : BSrc w A l.length cap l := by
  refine ⟨rfl, ?_⟩
  rcases h.own with ⟨h1, h2, h3⟩ | ⟨g, rfl, _, _, _, _, hc⟩
  · exact .inl ⟨h1, h3, h2⟩
  · refine .inr ⟨_, rfl, fun j u hu => ?_⟩
    obtain ⟨x, hx, rfl⟩ : ∃ x, l[j]? = some x ∧ u = .int .u8 x := by
      simp [u8s] at hu
      obtain ⟨x, h1, h2⟩ := hu
      exact ⟨x, h1, h2.symm⟩
    have e : (⟨g, 0, none⟩ : Addr).add j = ⟨g, j, none⟩ := by
      unfold Addr.add
      by_cases e : j = 0
      · rw [if_pos e, e]
      · rw [if_neg e, Nat.zero_add]
    rw [e]; exact hc j x hx

/-- Where a slice of a row begins, from a place on. -/
def fromAB (A : Option Addr) (cap i : Nat) : Option Addr := if cap = i then A else A.map fun a => a.add i

theorem run_fromB {P : Program} (t e : TypeId) (ht : P.underlying t = some (.slice e)) (hi : ∀ w, (sizeOf (P.elem t)).run P w = .ok 1 w) (A : Option Addr) (n cap i : Nat) (hl : i ≤ n) :
    ∀ w, (Instr.slice t (.slice A n cap) (some (.int .i64 (i : Nat))) none none).run P w = .ok (.slice (fromAB A cap i) (n - i) (cap - i)) w := fun w => by
  have he : P.elem t = e := by simp [Program.elem, ht]
  rw [run_slice_l w t _ n cap (by rw [he]; exact ht) .i64 i (by omega) (by omega), hi]
  simp only [Result.andThen, sliced, Nat.mul_one, Int.toNat_natCast, fromAB]

theorem sizeIB (w : World) : (sizeOf (Try.prog.elem 43)).run Try.prog w = .ok 1 w := by kernel_rfl

theorem fromA_someB (g cap i : Nat) : ∃ o, fromAB (some ⟨g, 0, none⟩) cap i = some ⟨g, o, none⟩ ∧ (i < cap → o = i) := by
  unfold fromAB
  by_cases h : cap = i
  · rw [if_pos h]; exact ⟨0, rfl, fun h' => by omega⟩
  · rw [if_neg h]
    refine ⟨i, ?_, fun _ => rfl⟩
    simp only [Option.map_some, Addr.add]
    by_cases h0 : i = 0
    · rw [if_pos h0, h0]
    · rw [if_neg h0, Nat.zero_add]

theorem row_srcB {w : World} {base : Nat} {A : Option Addr} {cap : Nat} {l : List Int} (h : BRow w base A cap l) (i m : Nat) (him : i ≤ m) (hm : m ≤ l.length) : BSrc w (fromAB A cap i) (m - i) (cap - i) ((l.take m).drop i) := by
  refine ⟨by simp; omega, ?_⟩
  rcases h.own with ⟨rfl, rfl, rfl⟩ | ⟨g, rfl, _, _, _, hle, hcl⟩
  · exact .inl ⟨by unfold fromAB; split <;> rfl, by simp, by omega⟩
  · obtain ⟨o, hBo, ho⟩ := fromA_someB g cap i
    refine .inr ⟨_, hBo, fun j u hu => ?_⟩
    obtain ⟨x, hx, rfl⟩ : ∃ x, ((l.take m).drop i)[j]? = some x ∧ u = .int .u8 x := by
      rw [u8s, List.getElem?_map] at hu
      obtain ⟨x, h1, h2⟩ := Option.map_eq_some_iff.1 hu
      exact ⟨x, h1, h2.symm⟩
    have hj : j < ((l.take m).drop i).length := (List.getElem?_eq_some_iff.1 hx).1
    simp at hj
    have hx2 : l[i + j]? = some x := by
      rw [List.getElem?_drop, List.getElem?_take_of_lt (by omega)] at hx
      exact hx
    rw [ho (by omega)]
    have e : (⟨g, i, none⟩ : Addr).add j = ⟨g, i + j, none⟩ := by
      unfold Addr.add
      by_cases e : j = 0
      · rw [if_pos e, e]; rfl
      · rw [if_neg e]
    rw [e]; exact hcl _ x hx2

/-- What a step of a rune buffer leaves alone: all but its own block, and rows of code points that lie behind it. -/
structure OwnB (rb : Nat) (w w' : World) : Prop where
  os : w'.os = w.os
  tape : w'.tape = w.tape
  output : w'.output = w.output
  size : w.heap.size ≤ w'.heap.size
  rest : ∀ k, k < w.heap.size → k ≠ rb → (k ≤ rb ∨ ¬ U8B w k) → w'.heap[k]? = w.heap[k]?
theorem OwnB.refl (rb : Nat) (w : World) : OwnB rb w w := ⟨rfl, rfl, rfl, Nat.le_refl _, fun _ _ _ _ => rfl⟩
theorem OwnB.trans {rb : Nat} {a b c : World} (h : OwnB rb a b) (k : OwnB rb b c) : OwnB rb a c :=
  ⟨k.os.trans h.os, k.tape.trans h.tape, k.output.trans h.output, Nat.le_trans h.size k.size, fun i hi h1 h2 =>
    have e := h.rest i hi h1 h2
    (k.rest i (Nat.lt_of_lt_of_le hi h.size) h1 (h2.imp id fun hn h' => hn (h'.of e.symm))).trans e⟩
theorem OwnB.of {rb : Nat} {w w' : World} (h : Below w.heap.size w w') : OwnB rb w w' := ⟨h.os, h.tape, h.output, h.size, fun k hk _ _ => h.block k hk⟩
theorem OwnB.after {rb : Nat} {a b c : World} (h : OwnB rb a b) (k : Below b.heap.size b c) : OwnB rb a c := h.trans (.of k)
theorem OwnB.drew {rb : Nat} {a w : World} (h : OwnB rb a w) : OwnB rb a w.drew := h.after (Below.refl _ _).drew
theorem OwnB.drewN {rb : Nat} {a w : World} (h : OwnB rb a w) (n : Nat) : OwnB rb a (w.drewN n) := h.after (below_drewN (Below.refl _ _) _)
theorem OwnB.alloc {rb : Nat} {a w : World} (h : OwnB rb a w) (o : Obj) : OwnB rb a (w.alloc o) := h.after ((Below.refl _ _).alloc (Nat.le_refl _) _)
theorem OwnB.set {rb : Nat} {a w : World} (h : OwnB rb a w) (o : Nat) (u : Value) : OwnB rb a (w.setCell ⟨rb, o, none⟩ u) :=
  h.trans ⟨rfl, rfl, rfl, by simp [World.setCell], fun k _ h1 _ => Below.heap_setCell _ _ _ _ h1⟩
theorem OwnB.grown {rb : Nat} {a w w' : World} (h : OwnB rb a w) {row : Option Nat} (hg : w.grownBy w' row) (hr : ∀ k, row = some k → rb < k ∧ U8B w k) : OwnB rb a w' :=
  h.trans ⟨hg.os, hg.tape, hg.output, hg.size, fun k hk h1 h2 => hg.block k hk fun e => by
    obtain ⟨h3, h4⟩ := hr k e.symm
    rcases h2 with h2 | h2
    · omega
    · exact h2 h4⟩
theorem OwnB.below {rb : Nat} {w w' : World} (h : OwnB rb w w') {B : Nat} (hB : B ≤ rb) (hz : B ≤ w.heap.size) : Below B w w' :=
  ⟨h.os, h.tape, h.output, h.size, fun k hk => h.rest k (by omega) (by omega) (.inl (by omega))⟩

end Go.Proofs.Ytjdphehphceegaa
