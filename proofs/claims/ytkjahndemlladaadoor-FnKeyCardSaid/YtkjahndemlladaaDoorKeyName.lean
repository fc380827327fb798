/- spec.KeyName: a letter behind Control, or a name out of a map. -/
import Derived.Test.YtkjahndemlladaaDoorWords
import Derived.Carry
import Derived.Maps.Own
import Derived.Deep.QuietTactic
namespace Go.Proofs.YtkjahndemlladaaDoor
open Go.RowKit
set_option linter.unusedVariables false
set_option linter.unusedSimpArgs false

def mapL : List (ByteArray × ByteArray) := [
  (⟨#[27]⟩, ⟨#[69, 115, 99, 97, 112, 101]⟩), (⟨#[27, 91, 65]⟩, ⟨#[85, 112]⟩), (⟨#[27, 91, 66]⟩, ⟨#[68, 111, 119, 110]⟩), (⟨#[27, 91, 67]⟩, ⟨#[82, 105, 103, 104, 116]⟩), (⟨#[27, 91, 68]⟩, ⟨#[76, 101, 102, 116]⟩),
  (⟨#[27, 91, 51, 126]⟩, ⟨#[68, 101, 108, 101, 116, 101]⟩), (⟨#[27, 91, 90]⟩, ⟨#[66, 97, 99, 107, 84, 97, 98]⟩), (⟨#[27, 91, 53, 126]⟩, ⟨#[80, 97, 103, 101, 85, 112]⟩), (⟨#[27, 91, 54, 126]⟩, ⟨#[80, 97, 103, 101, 68, 111, 119, 110]⟩), (⟨#[27, 91, 50, 126]⟩, ⟨#[73, 110, 115, 101, 114, 116]⟩)]
def atMap : List (ByteArray × ByteArray) → ByteArray → ByteArray
  | [], _ => ⟨#[]⟩
  | p :: l, s => if s == p.1 then p.2 else atMap l s
/-- A map of texts by texts, as it is laid. -/
def entries : List (ByteArray × ByteArray) → Nat → List MapEntry
  | [], _ => []
  | p :: l, i => { key := .string p.1, val := .string p.2, born := i } :: entries l (i + 1)

theorem check_str (k : ByteArray) (b : Bool) (W : World) : (Instr.checkKey b 10000 9 (.string k)).run Tryd.prog W = .ok () W := by
  rw [show (10000 : Nat) = 9999 + 1 from rfl, Instr.checkKey]
  simp [run_underlying Tryd.underlying9, Result.andThen]
theorem entries_push : ∀ (l : List (ByteArray × ByteArray)) (i : Nat) (k v : ByteArray), entries (l ++ [(k, v)]) i = entries l i ++ [{ key := .string k, val := .string v, born := i + l.length }]
  | [], i, k, v => rfl
  | p :: l, i, k, v => by
    rw [List.cons_append, entries, entries_push l (i + 1), entries, List.cons_append, List.length_cons, show i + 1 + l.length = i + (l.length + 1) by omega]

theorem ins_step (w W : World) (r : Nat) (l : List (ByteArray × ByteArray)) (k v : ByteArray) (hr : w.heap.size ≤ r) (hb : Below w.heap.size w W) (ho : W.heap[r]? = some (.map (entries l 0).toArray l.length)) (hf : Instr.findNow .string (.string k) (entries l 0) 0 = some none) :
    ∃ W', (Instr.mapUpdate 25 (.map (some r)) (.string k) (.string v)).run Tryd.prog W = .ok () W' ∧ W'.heap[r]? = some (.map (entries (l ++ [(k, v)]) 0).toArray (l ++ [(k, v)]).length) ∧ Below w.heap.size w W' := by
  have hm := Tryd.underlying25
  have hs := Tryd.underlying9
  simp only [Instr.mapUpdate, run_underlying hm, Sem.run_bind, Result.andThen_ok, getObj, setObj, Sem.run, ho, Result.andThen, Instr.findKey, run_underlying hs, hf, Sem.run_pure, check_str]
  have hlt : r < W.heap.size := by
    by_cases h : r < W.heap.size
    · exact h
    · have : W.heap[r]? = none := by simp; omega
      rw [this] at ho; cases ho
  refine ⟨_, rfl, ?_, hb.os, hb.tape, hb.output, by simpa using hb.size, fun i hi => ?_⟩
  · rw [entries_push]
    simp [hlt]
  · rw [← hb.block i hi]
    simp only
    rw [Array.getElem?_setIfInBounds_ne (by omega)]

theorem find_str : ∀ (l : List (ByteArray × ByteArray)) (i j : Nat) (s : ByteArray), ∃ q, Instr.findNow .string (.string s) (entries l i) j = some q ∧ (match q with | some (_, v) => v | none => .string ⟨#[]⟩) = .string (atMap l s)
  | [], i, j, s => ⟨none, rfl, rfl⟩
  | p :: l, i, j, s => by
    rw [entries, Instr.findNow, atMap]
    simp only [Instr.sameNow]
    cases h : s == p.1
    · simpa using find_str l (i + 1) (j + 1) s
    · exact ⟨_, rfl, rfl⟩

theorem look_map (W : World) (r : Nat) (s : ByteArray) (ho : W.heap[r]? = some (.map (entries mapL 0).toArray mapL.length)) :
    (Instr.lookup 25 (.map (some r)) (.string s) false).run Tryd.prog W = .ok (.string (atMap mapL s)) W := by
  have hm := Tryd.underlying25
  have hs := Tryd.underlying9
  have hz : (zeroValue 9).run Tryd.prog W = .ok (.string ⟨#[]⟩) W := by rfl
  obtain ⟨q, hq, hv⟩ := find_str mapL 0 0 s
  simp only [Instr.lookup, run_underlying hm, Sem.run_bind, Result.andThen_ok, getObj, Sem.run, ho, Result.andThen, Instr.findKey, run_underlying hs, hq, Sem.run_pure, check_str]
  cases q with
  | none => simp only [Sem.run_bind, hz, Result.andThen, Sem.run_pure, ← hv, Bool.false_eq_true, if_false]
  | some p => simp only [Sem.run_bind, Result.andThen, Sem.run_pure, ← hv, Bool.false_eq_true, if_false]

/-- The ten insertions. -/
theorem laid_map (w : World) : ∃ W1 W2 W3 W4 W5 W6 W7 W8 W9 W10,
    (Instr.mapUpdate 25 (.map (some w.heap.size)) (.string ⟨#[27]⟩) (.string ⟨#[69, 115, 99, 97, 112, 101]⟩)).run Tryd.prog (w.alloc (.map #[] 0)) = .ok () W1 ∧
    (Instr.mapUpdate 25 (.map (some w.heap.size)) (.string ⟨#[27, 91, 65]⟩) (.string ⟨#[85, 112]⟩)).run Tryd.prog W1 = .ok () W2 ∧
    (Instr.mapUpdate 25 (.map (some w.heap.size)) (.string ⟨#[27, 91, 66]⟩) (.string ⟨#[68, 111, 119, 110]⟩)).run Tryd.prog W2 = .ok () W3 ∧
    (Instr.mapUpdate 25 (.map (some w.heap.size)) (.string ⟨#[27, 91, 67]⟩) (.string ⟨#[82, 105, 103, 104, 116]⟩)).run Tryd.prog W3 = .ok () W4 ∧
    (Instr.mapUpdate 25 (.map (some w.heap.size)) (.string ⟨#[27, 91, 68]⟩) (.string ⟨#[76, 101, 102, 116]⟩)).run Tryd.prog W4 = .ok () W5 ∧
    (Instr.mapUpdate 25 (.map (some w.heap.size)) (.string ⟨#[27, 91, 51, 126]⟩) (.string ⟨#[68, 101, 108, 101, 116, 101]⟩)).run Tryd.prog W5 = .ok () W6 ∧
    (Instr.mapUpdate 25 (.map (some w.heap.size)) (.string ⟨#[27, 91, 90]⟩) (.string ⟨#[66, 97, 99, 107, 84, 97, 98]⟩)).run Tryd.prog W6 = .ok () W7 ∧
    (Instr.mapUpdate 25 (.map (some w.heap.size)) (.string ⟨#[27, 91, 53, 126]⟩) (.string ⟨#[80, 97, 103, 101, 85, 112]⟩)).run Tryd.prog W7 = .ok () W8 ∧
    (Instr.mapUpdate 25 (.map (some w.heap.size)) (.string ⟨#[27, 91, 54, 126]⟩) (.string ⟨#[80, 97, 103, 101, 68, 111, 119, 110]⟩)).run Tryd.prog W8 = .ok () W9 ∧
    (Instr.mapUpdate 25 (.map (some w.heap.size)) (.string ⟨#[27, 91, 50, 126]⟩) (.string ⟨#[73, 110, 115, 101, 114, 116]⟩)).run Tryd.prog W9 = .ok () W10 ∧
    W10.heap[w.heap.size]? = some (.map (entries mapL 0).toArray mapL.length) ∧ Below w.heap.size w W10 := by
  have b0 : Below w.heap.size w (w.alloc (.map #[] 0)) := (Below.refl _ _).alloc (Nat.le_refl _) _
  have o0 : (w.alloc (.map #[] 0)).heap[w.heap.size]? = some (.map (entries [] 0).toArray ([] : List (ByteArray × ByteArray)).length) := heap_alloc_new w _
  obtain ⟨W1, r1, o1, b1⟩ := ins_step w _ _ _ ⟨#[27]⟩ ⟨#[69, 115, 99, 97, 112, 101]⟩ (Nat.le_refl _) b0 o0 (by rfl)
  obtain ⟨W2, r2, o2, b2⟩ := ins_step w _ _ _ ⟨#[27, 91, 65]⟩ ⟨#[85, 112]⟩ (Nat.le_refl _) b1 o1 (by kernel_rfl)
  obtain ⟨W3, r3, o3, b3⟩ := ins_step w _ _ _ ⟨#[27, 91, 66]⟩ ⟨#[68, 111, 119, 110]⟩ (Nat.le_refl _) b2 o2 (by kernel_rfl)
  obtain ⟨W4, r4, o4, b4⟩ := ins_step w _ _ _ ⟨#[27, 91, 67]⟩ ⟨#[82, 105, 103, 104, 116]⟩ (Nat.le_refl _) b3 o3 (by kernel_rfl)
  obtain ⟨W5, r5, o5, b5⟩ := ins_step w _ _ _ ⟨#[27, 91, 68]⟩ ⟨#[76, 101, 102, 116]⟩ (Nat.le_refl _) b4 o4 (by kernel_rfl)
  obtain ⟨W6, r6, o6, b6⟩ := ins_step w _ _ _ ⟨#[27, 91, 51, 126]⟩ ⟨#[68, 101, 108, 101, 116, 101]⟩ (Nat.le_refl _) b5 o5 (by kernel_rfl)
  obtain ⟨W7, r7, o7, b7⟩ := ins_step w _ _ _ ⟨#[27, 91, 90]⟩ ⟨#[66, 97, 99, 107, 84, 97, 98]⟩ (Nat.le_refl _) b6 o6 (by kernel_rfl)
  obtain ⟨W8, r8, o8, b8⟩ := ins_step w _ _ _ ⟨#[27, 91, 53, 126]⟩ ⟨#[80, 97, 103, 101, 85, 112]⟩ (Nat.le_refl _) b7 o7 (by kernel_rfl)
  obtain ⟨W9, r9, o9, b9⟩ := ins_step w _ _ _ ⟨#[27, 91, 54, 126]⟩ ⟨#[80, 97, 103, 101, 68, 111, 119, 110]⟩ (Nat.le_refl _) b8 o8 (by kernel_rfl)
  obtain ⟨W10, r10, o10, b10⟩ := ins_step w _ _ _ ⟨#[27, 91, 50, 126]⟩ ⟨#[73, 110, 115, 101, 114, 116]⟩ (Nat.le_refl _) b9 o9 (by kernel_rfl)
  exact ⟨W1, W2, W3, W4, W5, W6, W7, W8, W9, W10, r1, r2, r3, r4, r5, r6, r7, r8, r9, r10, o10, b10⟩
end Go.Proofs.YtkjahndemlladaaDoor
