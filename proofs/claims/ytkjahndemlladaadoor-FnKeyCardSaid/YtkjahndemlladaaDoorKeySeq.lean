/- goprompt.zzSequences: one region of 112 literals. -/
import Derived.Test.YtkjahndemlladaaDoorKeySeqL
import Derived.Great.Walk
namespace Go.Proofs.YtkjahndemlladaaDoor
open Go.RowKit
set_option linter.unusedVariables false
set_option linter.unusedSimpArgs false

def partsB : List (Nat × Operand) → List Int → Nat → Bool
  | [], [], _ => true
  | (i, .const (.int .u8 z)) :: p, y :: zs, j => i == j && (decide (z = y) && partsB p zs (j + 1))
  | _, _, _ => false
theorem partsB_eq : ∀ (zs : List Int) (p : List (Nat × Operand)) (j : Nat), partsB p zs j = true → p = (zs.zipIdx j).map fun x => (x.2, Operand.const (Value.int .u8 x.1))
  | [], [], _, _ => rfl
  | [], _ :: _, _, h => by unfold partsB at h; split at h <;> simp_all
  | y :: zs, [], j, h => by simp [partsB] at h
  | y :: zs, q :: p, j, h => by
    unfold partsB at h
    split at h
    · cases ‹_ :: _ = []›
    · rename_i i z p' y' zs' j' e1 e2
      cases e1; cases e2
      simp only [Bool.and_eq_true, beq_iff_eq, decide_eq_true_eq] at h
      obtain ⟨rfl, rfl, h⟩ := h
      rw [partsB_eq zs p _ h]
      simp [List.zipIdx_cons]
    · cases h

/-- A literal of two operations: the bytes' row, the pair. -/
def litB (k : Nat) (e : Int × List Int) (o1 o2 : Oper) : Bool :=
  o1.guard.isNone && o1.dst == some (2 * k + 1) && (match o1.op with | .buildSlice t n p => t == 24 && n == e.2.length && decide (0 < n) && decide (n < 1000) && partsB p.toList e.2 0 | _ => false) &&
  o2.guard.isNone && o2.dst == some (2 * k + 2) && (match o2.op with | .build t p => t == 32 && (match p.toList with | [(0, .const (.int .i64 z)), (1, .tmp j)] => decide (z = e.1) && j == 2 * k + 1 | _ => false) | _ => false)
def litsB : Nat → List (Int × List Int) → List Oper → Bool
  | _, [], _ => true
  | k, e :: L, o1 :: o2 :: l => litB k e o1 o2 && litsB (k + 1) L l
  | _, _ :: _, _ => false

theorem litB_parts {k : Nat} {e : Int × List Int} {o1 o2 : Oper} (h : litB k e o1 o2 = true) :
    o1.guard = none ∧ o1.dst = some (2 * k + 1) ∧ (∃ p, o1.op = .buildSlice 24 e.2.length p ∧ 0 < e.2.length ∧ e.2.length < 1000 ∧ p.toList = (e.2.zipIdx 0).map fun x => (x.2, Operand.const (Value.int .u8 x.1))) ∧
    o2.guard = none ∧ o2.dst = some (2 * k + 2) ∧ o2.op = .build 32 #[(0, .const (.int .i64 e.1)), (1, .tmp (2 * k + 1))] := by
  unfold litB at h
  simp only [Bool.and_eq_true, Option.isNone_iff_eq_none, beq_iff_eq] at h
  obtain ⟨⟨⟨⟨⟨h1, h2⟩, h3⟩, h4⟩, h5⟩, h6⟩ := h
  refine ⟨h1, h2, ?_, h4, h5, ?_⟩
  · split at h3
    · rename_i t n p hop
      simp only [Bool.and_eq_true, beq_iff_eq, decide_eq_true_eq] at h3
      obtain ⟨⟨⟨⟨rfl, rfl⟩, h7⟩, h8⟩, h9⟩ := h3
      exact ⟨p, hop, h7, h8, partsB_eq _ _ _ h9⟩
    · cases h3
  · split at h6
    · rename_i t p hop
      simp only [Bool.and_eq_true, beq_iff_eq] at h6
      obtain ⟨rfl, h6⟩ := h6
      split at h6
      · rename_i z j hp
        simp only [Bool.and_eq_true, beq_iff_eq, decide_eq_true_eq] at h6
        obtain ⟨rfl, rfl⟩ := h6
        rw [hop]
        congr 1
        apply Array.ext'
        rw [hp]
      · cases h6
    · cases h6

/-- The world behind the literals. -/
def laidW : World → List (Int × List Int) → World
  | w, [] => w
  | w, e :: L => laidW (w.alloc (.cells (e.2.map (Value.int .u8)).toArray 5)) L
def aggs : Nat → List (Int × List Int) → List Value
  | _, [] => []
  | b, e :: L => .agg #[.int .i64 e.1, .slice (some ⟨b, 0, none⟩) e.2.length e.2.length] :: aggs (b + 1) L

theorem built_pair (k : Int) (A : Option Addr) (n c : Nat) : Tryd.prog.built 32 [(0, .int .i64 k), (1, .slice A n c)] = some #[.int .i64 k, .slice A n c] := by kernel_rfl

theorem wp_lits {ops : Array Oper} {Q : Exit → Act → World → Prop} : ∀ (L : List (Int × List Int)) (k : Nat) (l : List Oper) (a : Act) (w : World), litsB k L l = true → 2 * (k + L.length) < a.tmps.size →
    (∀ a' : Act, a'.tmps.size = a.tmps.size → a'.defers = a.defers → (∀ j, j ≤ 2 * k → a'.tmps[j]? = a.tmps[j]?) → (∀ i v, (aggs w.heap.size L)[i]? = some v → a'.tmps[2 * (k + i) + 2]? = some v) → wpList Tryd.prog ops Q (l.drop (2 * L.length)) a' (laidW w L)) →
    wpList Tryd.prog ops Q l a w
  | [], k, l, a, w, _, _, hr => hr a rfl rfl (fun _ _ => rfl) (fun i v h => by simp [aggs] at h)
  | e :: L, k, [], a, w, h, _, _ => by simp [litsB] at h
  | e :: L, k, [o], a, w, h, _, _ => by simp [litsB] at h
  | e :: L, k, o1 :: o2 :: l, a, w, h, hs, hr => by
    rw [litsB, Bool.and_eq_true] at h
    obtain ⟨h1, h2⟩ := h
    obtain ⟨g1, d1, ⟨p, hp, hp0, hp1, hpp⟩, g2, d2, hq⟩ := litB_parts h1
    simp only [List.length_cons] at hs
    refine wpList_buildFlatAt g1 24 5 e.2.length p hp .u8 e.2 w.heap.size rfl (some (2 * k + 1)) d1 (by kernel_rfl) (by kernel_rfl) (by kernel_rfl) rfl hp0 (by omega) hpp ?_
    have ev : (a.put (some (2 * k + 1)) (.slice (some ⟨w.heap.size, 0, none⟩) e.2.length e.2.length)).eval (.tmp (2 * k + 1)) = .slice (some ⟨w.heap.size, 0, none⟩) e.2.length e.2.length := by
      simp only [Act.put, Act.eval, Array.getD_eq_getD_getElem?]
      rw [Array.getElem?_setIfInBounds_self_of_lt (by omega)]
      rfl
    refine wpList_buildTo g2 32 _ hq (some (2 * k + 2)) d2 #[.int .i64 e.1, .slice (some ⟨w.heap.size, 0, none⟩) e.2.length e.2.length] ?_ ?_
    · simp only [List.map_toArray, List.map_cons, List.map_nil, ev]
      exact built_pair _ _ _ _
    · refine wp_lits L (k + 1) l _ _ h2 (by simp [Act.put]; omega) fun a' hs' hd' hk' hv' => ?_
      have hsz : a'.tmps.size = a.tmps.size := by rw [hs']; simp [Act.put]
      have e2 : 2 * (L.length + 1) = 2 * L.length + 1 + 1 := by omega
      have := hr a' hsz hd' (fun j hj => by
        rw [hk' j (by omega)]
        simp only [Act.put]
        rw [Array.getElem?_setIfInBounds_ne (by omega), Array.getElem?_setIfInBounds_ne (by omega)]) (fun i v hv => by
        cases i with
        | zero =>
          simp only [aggs, List.getElem?_cons_zero, Option.some.injEq] at hv
          subst hv
          rw [hk' _ (by omega)]
          simp only [Act.put, Nat.add_zero]
          rw [Array.getElem?_setIfInBounds_self_of_lt (by simp; omega)]
        | succ i =>
          simp only [aggs, List.getElem?_cons_succ] at hv
          have := hv' i v (by simpa using hv)
          rw [show 2 * (k + (i + 1)) + 2 = 2 * (k + 1 + i) + 2 by omega]
          exact this)
      rw [List.length_cons, e2, List.drop_succ_cons, List.drop_succ_cons] at this
      exact this

theorem laidW_below : ∀ (L : List (Int × List Int)) (w : World), Below w.heap.size w (laidW w L) ∧ (laidW w L).heap.size = w.heap.size + L.length
  | [], w => ⟨Below.refl _ _, rfl⟩
  | e :: L, w => by
    obtain ⟨h1, h2⟩ := laidW_below L (w.alloc (.cells (e.2.map (Value.int .u8)).toArray 5))
    exact ⟨((Below.refl _ _).alloc (Nat.le_refl _) _).trans (h1.mono (by simp)), by rw [laidW, h2]; simp; omega⟩
theorem laidW_row : ∀ (L : List (Int × List Int)) (w : World) (i : Nat) (e : Int × List Int), L[i]? = some e → (laidW w L).heap[w.heap.size + i]? = some (.cells (e.2.map (Value.int .u8)).toArray 5)
  | [], w, i, e, h => by simp at h
  | x :: L, w, 0, e, h => by
    simp only [List.getElem?_cons_zero, Option.some.injEq] at h
    subst h
    rw [laidW, (laidW_below L _).1.block _ (by simp)]
    exact heap_alloc_new w _
  | x :: L, w, i + 1, e, h => by
    simp only [List.getElem?_cons_succ] at h
    have := laidW_row L (w.alloc (.cells (x.2.map (Value.int .u8)).toArray 5)) i e h
    rw [laidW, show w.heap.size + (i + 1) = (w.alloc (.cells (x.2.map (Value.int .u8)).toArray 5)).heap.size + i by simp; omega]
    exact this
theorem aggs_get : ∀ (L : List (Int × List Int)) (b i : Nat) (e : Int × List Int), L[i]? = some e → (aggs b L)[i]? = some (.agg #[.int .i64 e.1, .slice (some ⟨b + i, 0, none⟩) e.2.length e.2.length])
  | [], b, i, e, h => by simp at h
  | x :: L, b, 0, e, h => by
    simp only [List.getElem?_cons_zero, Option.some.injEq] at h
    subst h
    rfl
  | x :: L, b, i + 1, e, h => by
    simp only [List.getElem?_cons_succ] at h
    rw [aggs, List.getElem?_cons_succ, aggs_get L (b + 1) i e h, show b + 1 + i = b + (i + 1) by omega]
theorem aggs_len : ∀ (L : List (Int × List Int)) (b : Nat), (aggs b L).length = L.length
  | [], _ => rfl
  | x :: L, b => by rw [aggs, List.length_cons, aggs_len L, List.length_cons]
theorem aggs_size : ∀ (L : List (Int × List Int)) (b : Nat), ∀ v ∈ aggs b L, v.cells.size = 2
  | [], _, v, h => by simp [aggs] at h
  | x :: L, b, v, h => by
    rcases List.mem_cons.1 h with rfl | h
    · rfl
    · exact aggs_size L (b + 1) v h

/-- The list's row: of each key the number and its bytes' slice. -/
def SeqAt (w : World) (g off b : Nat) : Prop := g < w.heap.size ∧ b + 112 ≤ w.heap.size ∧ ∀ i e, seqs8[i]? = some e →
  w.cell? ⟨g, off + i * 2, none⟩ = some (.int .i64 e.1) ∧ w.cell? ⟨g, off + i * 2 + 1, none⟩ = some (.slice (some ⟨b + i, 0, none⟩) e.2.length e.2.length) ∧
  ∀ j (hj : j < e.2.length), w.cell? ⟨b + i, j, none⟩ = some (.int .u8 (e.2[j].toNat : Int))
theorem SeqAt.below {w w' : World} {g off b : Nat} (h : SeqAt w g off b) (hb : Below w.heap.size w w') : SeqAt w' g off b := by
  obtain ⟨h1, h2, h3⟩ := h
  have hz := hb.size
  refine ⟨by omega, by omega, fun i e he => ?_⟩
  obtain ⟨c1, c2, c3⟩ := h3 i e he
  have hi : i < 112 := by have := (List.getElem?_eq_some_iff.1 he).1; exact this
  exact ⟨(hb.cell (p := ⟨g, off + i * 2, none⟩) h1).trans c1, (hb.cell (p := ⟨g, off + i * 2 + 1, none⟩) h1).trans c2, fun j hj => (hb.cell (p := ⟨b + i, j, none⟩) (by show b + i < _; omega)).trans (c3 j hj)⟩

theorem seqAt_made (w : World) : SeqAt ((laidW w seqs).alloc (.cells ((aggs w.heap.size seqs).flatMap fun v => v.cells.toList).toArray 32)) (w.heap.size + 112) 0 w.heap.size := by
  obtain ⟨hb, hz⟩ := laidW_below seqs w
  have hz2 : (laidW w seqs).heap.size = w.heap.size + 112 := hz
  refine ⟨by simp; omega, by simp; omega, fun i e he => ?_⟩
  have hi : i < 112 := by have := (List.getElem?_eq_some_iff.1 he).1; exact this
  have hs : seqs[i]? = some (e.1, e.2.map fun b => (b.toNat : Int)) := by unfold seqs; rw [List.getElem?_map, he]; rfl
  have hg := aggs_get seqs w.heap.size i _ hs
  have hn : ((laidW w seqs).alloc (.cells ((aggs w.heap.size seqs).flatMap fun v => v.cells.toList).toArray 32)).heap[w.heap.size + 112]? = some (.cells ((aggs w.heap.size seqs).flatMap fun v => v.cells.toList).toArray 32) := by
    rw [← hz2]; exact heap_alloc_new _ _
  have hc : ∀ k, ((laidW w seqs).alloc (.cells ((aggs w.heap.size seqs).flatMap fun v => v.cells.toList).toArray 32)).cell? ⟨w.heap.size + 112, k, none⟩ = ((aggs w.heap.size seqs)[k / 2]?).bind fun v => v.cells[k % 2]? := fun k => by
    rw [World.cell?, hn]
    simp only [List.getElem?_toArray]
    exact Great.flat_get (by omega) _ (aggs_size _ _) k
  refine ⟨?_, ?_, fun j hj => ?_⟩
  · rw [Nat.zero_add, hc, show i * 2 / 2 = i by omega, show i * 2 % 2 = 0 by omega, hg]; rfl
  · rw [Nat.zero_add, hc, show (i * 2 + 1) / 2 = i by omega, show (i * 2 + 1) % 2 = 1 by omega, hg]; simp [Value.cells]
  · have hr := laidW_row seqs w i _ hs
    have hr2 := (Below.heap_alloc (laidW w seqs) (.cells ((aggs w.heap.size seqs).flatMap fun v => v.cells.toList).toArray 32) (w.heap.size + i) (by omega)).trans hr
    rw [World.cell?, hr2]
    simp [hj]

def tmpsB : List (Nat × Operand) → Nat → Bool
  | [], j => j == 112
  | (i, .tmp t) :: p, j => i == j && (t == 2 * j + 2 && tmpsB p (j + 1))
  | _ :: _, _ => false
theorem tmpsB_eval (a : Act) (vs : List Value) (hl : vs.length = 112) (hv : ∀ i v, vs[i]? = some v → a.tmps[2 * i + 2]? = some v) : ∀ (p : List (Nat × Operand)) (j : Nat), j ≤ 112 → tmpsB p j = true →
    p.map (fun (i, x) => (i, a.eval x)) = ((vs.drop j).zipIdx j).map fun x => (x.2, x.1)
  | [], j, _, h => by
    simp only [tmpsB, beq_iff_eq] at h
    rw [List.drop_eq_nil_of_le (by omega)]
    rfl
  | (i, .tmp t) :: p, j, hj, h => by
    simp only [tmpsB, Bool.and_eq_true, beq_iff_eq] at h
    obtain ⟨rfl, rfl, h⟩ := h
    by_cases hi : i < 112
    · have ih := tmpsB_eval a vs hl hv p (i + 1) (by omega) h
      have hvi := hv i vs[i] (List.getElem?_eq_getElem (by omega))
      have e : (vs.drop i).zipIdx i = (vs[i]'(by omega), i) :: (vs.drop (i + 1)).zipIdx (i + 1) := by rw [List.drop_eq_getElem_cons (by omega), List.zipIdx_cons]
      rw [List.map_cons, ih, e, List.map_cons]
      congr 2
      simp only [Act.eval, Array.getD_eq_getD_getElem?, hvi, Option.getD_some]
    · obtain rfl : i = 112 := by omega
      cases p with
      | nil => simp [tmpsB] at h
      | cons q p =>
        obtain ⟨q1, q2⟩ := q
        cases q2 <;> simp [tmpsB] at h
        have := tmpsB_le p _ h.2.2
        omega
  | (i, .const _) :: p, j, _, h => by simp [tmpsB] at h
  | (i, .global _) :: p, j, _, h => by simp [tmpsB] at h
  | (i, .func _) :: p, j, _, h => by simp [tmpsB] at h
where tmpsB_le : ∀ (p : List (Nat × Operand)) (j : Nat), tmpsB p j = true → j ≤ 112
  | [], j, h => by simp only [tmpsB, beq_iff_eq] at h; omega
  | (i, .tmp t) :: p, j, h => by
    simp only [tmpsB, Bool.and_eq_true, beq_iff_eq] at h
    have := tmpsB_le p (j + 1) h.2.2
    omega
  | (i, .const _) :: p, j, h => by simp [tmpsB] at h
  | (i, .global _) :: p, j, h => by simp [tmpsB] at h
  | (i, .func _) :: p, j, h => by simp [tmpsB] at h

def endB : List Oper → Bool
  | [o1, o2] => o1.guard.isNone && o1.dst == some 225 && (match o1.op with | .buildSlice t n p => t == 29 && n == 112 && tmpsB p.toList 0 | _ => false) &&
    o2.guard.isNone && o2.dst == some 0 && (match o2.op with | .assign (.tmp t) => t == 225 | _ => false)
  | _ => false

theorem wp_end {ops : Array Oper} {Q : Exit → Act → World → Prop} (l : List Oper) (a : Act) (w : World) (vs : List Value) (hb : endB l = true) (hs : a.tmps.size = 226) (hl : vs.length = 112) (h2 : ∀ v ∈ vs, v.cells.size = 2)
    (hv : ∀ i v, vs[i]? = some v → a.tmps[2 * i + 2]? = some v)
    (hr : ∀ a' : Act, a'.defers = a.defers → a'.tmps[0]? = some (.slice (some ⟨w.heap.size, 0, none⟩) 112 112) → Q .normal a' (w.alloc (.cells (vs.flatMap fun v => v.cells.toList).toArray 32))) :
    wpList Tryd.prog ops Q l a w := by
  unfold endB at hb
  split at hb
  case h_2 => cases hb
  rename_i o1 o2
  simp only [Bool.and_eq_true, Option.isNone_iff_eq_none, beq_iff_eq] at hb
  obtain ⟨⟨⟨⟨⟨g1, d1⟩, h3⟩, g2⟩, d2⟩, h6⟩ := hb
  split at h3
  case h_2 => cases h3
  rename_i t n p hop
  simp only [Bool.and_eq_true, beq_iff_eq] at h3
  obtain ⟨⟨rfl, rfl⟩, h3⟩ := h3
  split at h6
  case h_2 => cases h6
  rename_i t hop2
  simp only [beq_iff_eq] at h6
  subst h6
  have hsz : (Tryd.prog.info? 32).map (·.size) = some 2 := by kernel_rfl
  have hzz : ((Tryd.prog.info? 32).bind (·.zero)).isSome = true := by kernel_rfl
  cases hie : Tryd.prog.info? 32 with
  | none => rw [hie] at hsz; cases hsz
  | some ie =>
    simp only [hie, Option.map_some, Option.some.injEq, Option.bind_some] at hsz hzz
    obtain ⟨z, hz⟩ := Option.isSome_iff_exists.1 hzz
    have hparts : (p.map fun (i, x) => (i, a.eval x)).toList = ((vs.zipIdx 0).map fun x => (x.2, x.1)) := by
      rw [Array.toList_map, tmpsB_eval a vs hl hv p.toList 0 (by omega) h3, List.drop_zero]
    refine wpList_buildSlice g1 29 32 112 p hop (vs.flatMap fun v => v.cells.toList).toArray ie z (by kernel_rfl) hie hz (by rw [hsz]; decide) (by rw [hsz]; decide) ?_ ?_
    · rw [hparts, hsz]
      exact Great.fill_whole (by omega) vs _ h2 (by simp [hl])
    · rw [d1]
      have ev : (a.put (some 225) (.slice (some ⟨w.heap.size, 0, none⟩) 112 112)).eval (.tmp 225) = .slice (some ⟨w.heap.size, 0, none⟩) 112 112 := by
        simp only [Act.put, Act.eval, Array.getD_eq_getD_getElem?]
        rw [Array.getElem?_setIfInBounds_self_of_lt (by omega)]
        rfl
      refine Great.wpList_runTo g2 (some 0) d2 (.slice (some ⟨w.heap.size, 0, none⟩) 112 112) (w.alloc (.cells (vs.flatMap fun v => v.cells.toList).toArray 32)) ?_ ?_
      · unfold execOp
        rw [hop2]
        exact congrArg (fun v => Result.ok (Next.value v) _) ev
      · refine wpList_nil (hr _ rfl ?_)
        simp only [Act.put]
        rw [Array.getElem?_setIfInBounds_self_of_lt (by simp; omega)]

def SeqPost (w : World) (e : Ending) (w' : World) : Prop := ∃ g off b, e = .returned (.slice (some ⟨g, off, none⟩) 112 112) ∧ SeqAt w' g off b ∧ Below w.heap.size w w'
theorem seqs_any (w : World) : Calls Tryd.prog 8 #[] w (SeqPost w) := by
  refine calls_of_wp Tryd.func8 rfl ?_
  rw [Tryd.ntmps8]
  refine wp_seq_k fun K1 hK1 => ?_
  refine wp_region_lit ?_
  refine Great.wpList_runTo rfl (some 0) rfl (.slice none 0 0) w (by rfl) ?_
  refine wpList_nil ?_
  refine hK1 _ _ ?_
  refine wp_seq_k fun K2 hK2 => ?_
  refine wp_region_lit ?_
  have hlt : 2 * (0 + seqs.length) < 226 := by rw [show seqs.length = 112 by kernel_rfl]; decide
  refine wp_lits seqs 0 _ _ w (by kernel_rfl) (Nat.lt_of_lt_of_eq hlt (by kernel_rfl)) ?_
  intro a' hs hd hk hv
  refine wp_end _ a' _ (aggs w.heap.size seqs) (by kernel_rfl) (by rw [hs]; kernel_rfl) (aggs_len _ _) (aggs_size _ _) (fun i v h => by have := hv i v h; rwa [Nat.zero_add] at this) ?_
  intro a2 hd2 h0
  refine hK2 _ _ ?_
  refine wp_ret ?_
  obtain ⟨hb, hz⟩ := laidW_below seqs w
  have hz2 : (laidW w seqs).heap.size = w.heap.size + 112 := hz
  have h1 := seqAt_made w
  rw [← hz2] at h1
  refine bodyPost_ret (v := .slice (some ⟨(laidW w seqs).heap.size, 0, none⟩) 112 112) ?_ (by rw [hd2, hd]; rfl) ⟨_, 0, _, rfl, h1, hb.alloc (by omega) _⟩
  simp [results, Tryd.results8, h0]
end Go.Proofs.YtkjahndemlladaaDoor
