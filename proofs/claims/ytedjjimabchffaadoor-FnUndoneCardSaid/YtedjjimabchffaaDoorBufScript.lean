/- A script of edits: run$1, run, EditedFrom. -/
import Derived.Test.YtedjjimabchffaaDoorBufRun
import Derived.Deep.AppendLies
namespace Go.Proofs.YtedjjimabchffaaDoor
open Go.RowKit
set_option linter.unusedVariables false
set_option linter.unusedSimpArgs false

inductive Chain : List Ed → ByteArray → Nat → List ByteArray → ByteArray → Nat → Prop
  | nil (s : ByteArray) (k : Nat) : Chain [] s k [] s k
  | cons {e : Ed} {es : List Ed} {s : ByteArray} {k : Nat} {t s1 : ByteArray} {k1 : Nat} {ts : List ByteArray} {s' : ByteArray} {k' : Nat} :
      StepOk e s k t s1 k1 → Chain es s1 k1 ts s' k' → Chain (e :: es) s k (t :: ts) s' k'

theorem Chain.len {es : List Ed} {s : ByteArray} {k : Nat} {ts : List ByteArray} {s' : ByteArray} {k' : Nat} (h : Chain es s k ts s' k') : ts.length = es.length := by
  induction h with
  | nil => rfl
  | cons _ _ ih => simp [ih]

/-- What is left to do from the j-th edit on. -/
theorem Chain.at {es : List Ed} {s : ByteArray} {k : Nat} {ts : List ByteArray} {s' : ByteArray} {k' : Nat} (j : Nat) (hj : j < es.length) (h : Chain (es.drop j) s k (ts.drop j) s' k') :
    ∃ t s1 k1, StepOk (es[j]'hj) s k t s1 k1 ∧ ts[j]? = some t ∧ Chain (es.drop (j + 1)) s1 k1 (ts.drop (j + 1)) s' k' := by
  rw [List.drop_eq_getElem_cons hj] at h
  generalize htj : ts.drop j = tj at h
  cases h with
  | cons h1 h2 =>
    rename_i t s1 k1 ts1
    refine ⟨t, s1, k1, h1, ?_, ?_⟩
    · have : (ts.drop j)[0]? = some t := by rw [htj]; rfl
      simpa using this
    · have : ts.drop (j + 1) = ts1 := by rw [← List.tail_drop, htj]; rfl
      rw [this]; exact h2

/-- All but some blocks is as it was. -/
structure Kept (X : List Nat) (w w' : World) : Prop where
  os : w'.os = w.os
  tape : w'.tape = w.tape
  output : w'.output = w.output
  size : w.heap.size ≤ w'.heap.size
  rest : ∀ k, k < w.heap.size → k ∉ X → w'.heap[k]? = w.heap[k]?
theorem Kept.refl (X : List Nat) (w : World) : Kept X w w := ⟨rfl, rfl, rfl, Nat.le_refl _, fun _ _ _ => rfl⟩
theorem Kept.trans {X : List Nat} {a b c : World} (h : Kept X a b) (k : Kept X b c) : Kept X a c :=
  ⟨k.os.trans h.os, k.tape.trans h.tape, k.output.trans h.output, Nat.le_trans h.size k.size, fun i hi h1 => (k.rest i (Nat.lt_of_lt_of_le hi h.size) h1).trans (h.rest i hi h1)⟩
theorem Kept.of {X : List Nat} {w w' : World} (h : Below w.heap.size w w') : Kept X w w' := ⟨h.os, h.tape, h.output, h.size, fun k hk _ => h.block k hk⟩
theorem Kept.own {X : List Nat} {bb lb : Nat} {w w' : World} (h : Own bb lb w w') (hb : bb ∈ X) (hl : lb ∈ X) : Kept X w w' :=
  ⟨h.os, h.tape, h.output, h.size, fun k hk hx => h.rest k hk (fun e => hx (by rw [e]; exact hb)) (fun e => hx (by rw [e]; exact hl))⟩
theorem Kept.alloc {X : List Nat} {a w : World} (h : Kept X a w) (o : Obj) : Kept X a (w.alloc o) := h.trans (.of ((Below.refl _ _).alloc (Nat.le_refl _) _))
theorem Kept.drew {X : List Nat} {a w : World} (h : Kept X a w) : Kept X a w.drew := h.trans (.of (Below.refl _ _).drew)
theorem Kept.set {X : List Nat} {a w : World} (h : Kept X a w) (b o : Nat) (u : Value) (hb : b ∈ X) : Kept X a (w.setCell ⟨b, o, none⟩ u) :=
  h.trans ⟨rfl, rfl, rfl, by simp [World.setCell], fun k _ hx => Below.heap_setCell _ _ _ _ (fun e => hx (by rw [e]; exact hb))⟩
theorem Kept.grown {X : List Nat} {a w w' : World} {row : Option Nat} (h : Kept X a w) (hg : w.grownBy w' row) (hr : ∀ k, row = some k → a.heap.size ≤ k) : Kept X a w' :=
  ⟨hg.os.trans h.os, hg.tape.trans h.tape, hg.output.trans h.output, Nat.le_trans h.size hg.size, fun k hk hx => (hg.block k (Nat.lt_of_lt_of_le hk h.size) (fun e => by have := hr k e.symm; omega)).trans (h.rest k hk hx)⟩
theorem Kept.cell {X : List Nat} {w w' : World} (h : Kept X w w') {b : Nat} (o : Nat) (hb : b < w.heap.size) (hx : b ∉ X) : w'.cell? ⟨b, o, none⟩ = w.cell? ⟨b, o, none⟩ := World.cell?_of_block (w := w) (h.rest b hb hx)
theorem Kept.frozen {X : List Nat} {w w' : World} (h : Kept X w w') {b : Nat} (o : Nat) (hb : b < w.heap.size) (hx : b ∉ X) : w'.frozen? ⟨b, o, none⟩ = w.frozen? ⟨b, o, none⟩ := World.frozen?_of_block (w := w) (h.rest b hb hx)
theorem Kept.below {X : List Nat} {w w' : World} (h : Kept X w w') {B : Nat} (hB : B ≤ w.heap.size) (hX : ∀ x ∈ X, B ≤ x) : Below B w w' :=
  ⟨h.os, h.tape, h.output, h.size, fun k hk => h.rest k (by omega) (fun hx => by have := hX k hx; omega)⟩

theorem Own.ownsRow {bb lb : Nat} {w w' : World} (h : Own bb lb w w') {base : Nat} {e : TypeId} {v : Value} {n : Nat} {xs : List Value} (ho : w.ownsRow base e 1 v n xs) (hb : bb < base) (hl : lb < base) : w'.ownsRow base e 1 v n xs := by
  refine ⟨ho.1, ?_⟩
  rcases ho.2 with h0 | ⟨g, cap, cur, hv, hg, hh, r⟩
  · exact .inl h0
  · exact .inr ⟨g, cap, cur, hv, hg, by rw [h.rest g (Array.getElem?_eq_some_iff.1 hh).1 (by omega) (by omega)]; exact hh, r⟩

def txts (l : List ByteArray) : List Value := l.map .string
/-- A script in memory. -/
def IsEds (w : World) (A : Option Addr) (es : List Ed) (X : List Nat) : Prop :=
  es = [] ∨ ∃ b off, A = some ⟨b, off, none⟩ ∧ b < w.heap.size ∧ b ∉ X ∧ ∀ (j : Nat) (hj : j < es.length),
    w.cell? ⟨b, off + j * 4, none⟩ = some (.int .i64 (es[j]'hj).op) ∧ w.cell? ⟨b, off + j * 4 + 1, none⟩ = some (.int .i64 (es[j]'hj).n) ∧ w.cell? ⟨b, off + j * 4 + 2, none⟩ = some (.string (es[j]'hj).s) ∧ w.cell? ⟨b, off + j * 4 + 3, none⟩ = some (.bool (es[j]'hj).f)

/-- What a script's closure finds: its four variables. -/
structure Vars4 (w : World) (S0 B0 F0 T0 bb lb : Nat) (A : Option Addr) (n cap : Nat) : Prop where
  cS : w.cell? ⟨S0, 0, none⟩ = some (.slice A n cap)
  cB : w.cell? ⟨B0, 0, none⟩ = some (.pointer (some ⟨bb, 0, none⟩))
  lS : S0 < w.heap.size
  lB : B0 < w.heap.size
  lF : F0 < w.heap.size
  lT : T0 < w.heap.size
  nS : S0 ∉ [bb, lb, F0, T0]
  nB : B0 ∉ [bb, lb, F0, T0]
  nF : F0 ∉ [bb, lb, T0]
  nT : T0 ∉ [bb, lb, F0]

def Round (w : World) (F0 T0 bb lb : Nat) (ts : List ByteArray) (s : ByteArray) (k : Nat) (j : Nat) (v : Value) (wr : World) : Prop :=
  wr.cell? ⟨F0, 0, none⟩ = some (.bool true) ∧ wr.frozen? ⟨F0, 0, none⟩ = false ∧ wr.cell? ⟨T0, 0, none⟩ = some v ∧ wr.frozen? ⟨T0, 0, none⟩ = false ∧
  wr.ownsRow w.heap.size 9 1 v j (txts (ts.take j)) ∧ Kept [bb, lb, F0, T0] w wr ∧ Buf wr bb lb s k

def ScriptPost (bb lb F0 T0 : Nat) (ts : List ByteArray) (s' : ByteArray) (k' : Nat) (w : World) (e : Ending) (w' : World) : Prop :=
  e = .returned (.tuple #[]) ∧ ∃ v, Round w F0 T0 bb lb ts s' k' ts.length v w'

theorem Buf.boolCell {w : World} {bb lb : Nat} {s : ByteArray} {k : Nat} (h : Buf w bb lb s k) (F : Nat) (u : Value) (hb : F ≠ bb) (hl : F ≠ lb) (hx : ∀ t, w.cell? ⟨F, 0, none⟩ ≠ some (.string t)) : Buf (w.setCell ⟨F, 0, none⟩ u) bb lb s k :=
  h.same (by simp [World.setCell]) (fun k hk hx' => Below.heap_setCell _ _ _ _ (by
    rintro rfl
    rcases hx' with e | e | ⟨⟨s, j, hd⟩, _⟩
    · exact hb e
    · exact hl e
    · exact hx _ hd.1))

theorem Buf.grown {w w' : World} {bb lb : Nat} {s : ByteArray} {k : Nat} (h : Buf w bb lb s k) {row : Option Nat} (hg : w.grownBy w' row) {base : Nat} {v : Value} {n : Nat} {xs : List Value} (hr : row = v.ownBlock) (ho : w.ownsRow base 9 1 v n xs) (hb : bb < base) (hl : lb < base) : Buf w' bb lb s k :=
  h.same hg.size (fun k hk hx => hg.block k hk (by
    intro e
    rw [hr] at e
    obtain ⟨hlo, hlt⟩ := ho.lt k e.symm
    rcases hx with e | e | ⟨_, ⟨cs, fr, hd⟩⟩
    · omega
    · omega
    · rcases ho.2 with ⟨rfl, _⟩ | ⟨g, cap, cur, rfl, _, hh, _⟩
      · simp [Value.ownBlock] at e
      · have : k = g := by simpa [Value.ownBlock] using e
        subst this
        rw [hh] at hd
        simp at hd))

/-- A round of a script. -/
theorem round_next {w wr w2 w3 : World} {F0 T0 bb lb : Nat} {ts : List ByteArray} {s1 s2 : ByteArray} {k1 k2 j : Nat} {v v2 : Value} {t : ByteArray} {o o' : Obj}
    (hR : Round w F0 T0 bb lb ts s1 k1 j v wr) (hF : F0 < w.heap.size) (hT : T0 < w.heap.size) (nF : F0 ∉ [bb, lb, T0]) (nT : T0 ∉ [bb, lb, F0]) (hbb : bb < w.heap.size) (hlb : lb < w.heap.size)
    (hj : j < ts.length) (ht : ts[j]? = some t) (o2 : Own bb lb (wr.alloc o) w2) (hB2 : Buf w2 bb lb s2 k2)
    (hown3 : w3.ownsRow w.heap.size 9 1 v2 (j + 1) (txts (ts.take j) ++ [.string t])) (hg : ((w2.setCell ⟨F0, 0, none⟩ (.bool true)).alloc o').grownBy w3 v.ownBlock) :
    Round w F0 T0 bb lb ts s2 k2 (j + 1) v2 (w3.setCell ⟨T0, 0, none⟩ v2) := by
  obtain ⟨cF, fF, cT, fT, hown, hkept, _⟩ := hR
  simp only [List.mem_cons, List.not_mem_nil, or_false, not_or] at nF nT
  have hws := hkept.size
  have hlo := hown.lt
  have z1 : wr.heap.size + 1 ≤ w2.heap.size := by have := o2.size; simpa using this
  have eb : ∀ k, k < w.heap.size → k ≠ bb → k ≠ lb → w2.heap[k]? = wr.heap[k]? := fun k hk h1 h2 => (o2.rest k (by simp; omega) h1 h2).trans (Below.heap_alloc _ _ _ (by omega))
  have hown2 : w2.ownsRow w.heap.size 9 1 v j (txts (ts.take j)) := o2.ownsRow (hown.alloc o) hbb hlb
  have hown2' := (ownsRow_setCell_below (a := ⟨F0, 0, none⟩) hown2 hF (.bool true)).alloc o'
  have cF2 : w2.cell? ⟨F0, 0, none⟩ = some (.bool true) := (World.cell?_of_block (w := wr) (eb F0 hF nF.1 nF.2.1)).trans cF
  have cT2 : w2.cell? ⟨T0, 0, none⟩ = some v := (World.cell?_of_block (w := wr) (eb T0 hT nT.1 nT.2.1)).trans cT
  have hvs : ∀ t, v ≠ .string t := fun t e => by
    rcases hown.2 with ⟨rfl, _⟩ | ⟨g, cap, cur, rfl, _⟩ <;> cases e
  have hB3 : Buf (w2.setCell ⟨F0, 0, none⟩ (.bool true)) bb lb s2 k2 := hB2.boolCell F0 _ nF.1 nF.2.1 (fun t => by rw [cF2]; simp)
  have hB4 : Buf ((w2.setCell ⟨F0, 0, none⟩ (.bool true)).alloc o') bb lb s2 k2 := hB3.below ((Below.refl _ _).alloc (Nat.le_refl _) _)
  have hB5 : Buf w3 bb lb s2 k2 := hB4.grown hg rfl hown2' hbb hlb
  have far : ∀ b, b < w.heap.size → w3.heap[b]? = ((w2.setCell ⟨F0, 0, none⟩ (.bool true)).alloc o').heap[b]? := fun b hb => hg.block b (by simp [World.setCell]; omega) (fun e => by have := (hlo b e.symm).1; omega)
  have back : ∀ b, b < w.heap.size → ((w2.setCell ⟨F0, 0, none⟩ (.bool true)).alloc o').heap[b]? = (w2.setCell ⟨F0, 0, none⟩ (.bool true)).heap[b]? := fun b hb => Below.heap_alloc _ _ _ (by simp [World.setCell]; omega)
  have cF3 : w3.cell? ⟨F0, 0, none⟩ = some (.bool true) := (World.cell?_of_block (w := w2.setCell ⟨F0, 0, none⟩ (.bool true)) ((far F0 hF).trans (back F0 hF))).trans (World.cell?_setCell_same' _ _ _ (by rw [cF2]; rfl))
  have fF3 : w3.frozen? ⟨F0, 0, none⟩ = false := (World.frozen?_of_block (w := w2.setCell ⟨F0, 0, none⟩ (.bool true)) ((far F0 hF).trans (back F0 hF))).trans (by rw [World.frozen?_setCell]; exact (World.frozen?_of_block (w := wr) (eb F0 hF nF.1 nF.2.1)).trans fF)
  have eT : w3.heap[T0]? = w2.heap[T0]? := ((far T0 hT).trans (back T0 hT)).trans (Below.heap_setCell _ _ _ _ nT.2.2)
  have cT3 : w3.cell? ⟨T0, 0, none⟩ = some v := (World.cell?_of_block (w := w2) eT).trans cT2
  have fT3 : w3.frozen? ⟨T0, 0, none⟩ = false := (World.frozen?_of_block (w := w2) eT).trans ((World.frozen?_of_block (w := wr) (eb T0 hT nT.1 nT.2.1)).trans fT)
  have hk3 : Kept [bb, lb, F0, T0] w w3 := ((((hkept.alloc o).trans (Kept.own o2 (by simp) (by simp))).set F0 0 _ (by simp)).alloc o').grown hg (fun k e => (hlo k e).1)
  refine ⟨?_, ?_, ?_, ?_, ?_, hk3.set T0 0 _ (by simp), ?_⟩
  · rw [World.cell?_setCell_other _ _ _ _ (by intro h; have := congrArg Addr.block h; simp at this; exact nF.2.2 this.symm)]; exact cF3
  · rw [World.frozen?_setCell]; exact fF3
  · exact World.cell?_setCell_same' _ _ _ (by rw [cT3]; rfl)
  · rw [World.frozen?_setCell]; exact fT3
  · have e : txts (ts.take (j + 1)) = txts (ts.take j) ++ [.string t] := by
      have : ts.take (j + 1) = ts.take j ++ [t] := by rw [List.take_add_one, ht]; rfl
      rw [this]; simp [txts]
    rw [e]
    exact ownsRow_setCell_below (a := ⟨T0, 0, none⟩) hown3 hT v2
  · exact hB5.boolCell T0 _ nT.1 nT.2.1 (fun t => by rw [cT3]; simpa using hvs t)

set_option maxRecDepth 100000 in
set_option maxHeartbeats 4000000 in
theorem script_some (S0 B0 F0 T0 bb lb b off : Nat) (cap : Nat) (es : List Ed) (ts : List ByteArray) (s s' : ByteArray) (k k' : Nat) (w : World)
    (hv : Vars4 w S0 B0 F0 T0 bb lb (some ⟨b, off, none⟩) es.length cap) (hbl : b < w.heap.size) (hbx : b ∉ [bb, lb, F0, T0])
    (he : ∀ (j : Nat) (e : Ed), es[j]? = some e → w.cell? ⟨b, off + j * 4, none⟩ = some (.int .i64 e.op) ∧ w.cell? ⟨b, off + j * 4 + 1, none⟩ = some (.int .i64 e.n) ∧ w.cell? ⟨b, off + j * 4 + 2, none⟩ = some (.string e.s) ∧ w.cell? ⟨b, off + j * 4 + 3, none⟩ = some (.bool e.f))
    (hc : Chain es s k ts s' k') (hr : Round w F0 T0 bb lb ts s k 0 (.slice none 0 0) w) (hn : es.length ≤ 2147483647) :
    Calls Tryd.prog 23 #[.pointer (some ⟨S0, 0, none⟩), .pointer (some ⟨B0, 0, none⟩), .pointer (some ⟨F0, 0, none⟩), .pointer (some ⟨T0, 0, none⟩)] w (ScriptPost bb lb F0 T0 ts s' k' w) := by
  obtain ⟨ib, hib, hz0, hz1, hz2⟩ := info_parts (show (Tryd.prog.info? 9).map (fun i => (i.zero, i.size, i.bytes)) = some (some (.string ⟨#[]⟩), 1, 16) by kernel_rfl)
  have HV := Go.Lib.hid hv
  have HE := Go.Lib.hid he
  have HBX := Go.Lib.hid hbx
  have HC0 := Go.Lib.hid hc
  have HR0 := Go.Lib.hid hr
  have HL := Go.Lib.hid hc.len
  have HBB : Hid (bb < w.heap.size ∧ lb < w.heap.size) := ⟨hr.2.2.2.2.2.2.sz, by have := hr.2.2.2.2.2.2.sz; have := hr.2.2.2.2.2.2.lt; omega⟩
  have cS := hv.cS
  clear hv he hc hr hbx
  go_enter Tryd.func23, Tryd.ntmps23
  go_wp2_with fail
  go_loopw [10] (fun i wr => ∃ (j : Nat) (s1 : ByteArray) (k1 : Nat) (v : Value), j ≤ es.length ∧ i = .int .i64 j ∧ Hid (Chain (es.drop j) s1 k1 (ts.drop j) s' k') ∧ Hid (Round w F0 T0 bb lb ts s1 k1 j v wr)) (fun i _ => es.length - (intOf i).toNat)
  case atStart => exact ⟨0, s, k, _, Nat.zero_le _, rfl, HC0.out, HR0.out⟩
  case round =>
    obtain ⟨j, s1, k1, v, hj, rfl, HC, HR⟩ := hrel
    by_cases hlt : j < es.length
    · obtain ⟨t, s2, k2, hstep, ht, hC2⟩ := HC.out.at j hlt
      have hje : es[j]? = some es[j] := List.getElem?_eq_getElem hlt
      generalize es[j] = e at hstep hje
      obtain ⟨c0, c1, c2, c3⟩ := HE.out j e hje
      obtain ⟨op, n, str, fl⟩ := e
      have HS : Hid (∀ w, Buf w bb lb s1 k1 → Calls Tryd.prog 24 #[.pointer (some ⟨bb, 0, none⟩), .agg #[.int .i64 op, .int .i64 n, .string str, .bool fl]] w (StepPost bb lb t s2 k2 w)) := fun w h => hstep bb lb w h
      have HT := Go.Lib.hid ht
      have HC2 := Go.Lib.hid hC2
      have hkept := HR.out.2.2.2.2.2.1
      have e0 := (hkept.cell (off + j * 4) hbl HBX.out).trans c0
      have e1 := (hkept.cell (off + j * 4 + 1) hbl HBX.out).trans c1
      have e2 := (hkept.cell (off + j * 4 + 2) hbl HBX.out).trans c2
      have e3 := (hkept.cell (off + j * 4 + 3) hbl HBX.out).trans c3
      have eB := (hkept.cell 0 HV.out.lB HV.out.nB).trans HV.out.cB
      simp only at e0 e1 e2 e3
      clear c0 c1 c2 c3 cS hkept hje hstep ht hC2
      have hj0 : (0 : Int) ≤ j := by omega
      have hj1 : (j : Int) < es.length := by omega
      have hws := HR.out.2.2.2.2.2.1.size
      have lB := HV.out.lB
      have lF := HV.out.lF
      have lT := HV.out.lT
      have nB1 : B0 < wr.heap.size := by omega
      have nB2 : ¬ B0 = wr.heap.size := by omega
      have H1 : Hid (Buf (wr.alloc (.cells #[.int .i64 op, .int .i64 n, .string str, .bool fl] 33)) bb lb s1 k1) := HR.out.2.2.2.2.2.2.below ((Below.refl _ _).alloc (Nat.le_refl _) _)
      go_wp2_with fail
      refine (HS.out _ H1.out).mono ?_
      rintro e w2 hP
      obtain ⟨rfl, hB2, o2⟩ := hP
      have HB2 := Go.Lib.hid hB2
      have O2 := Go.Lib.hid o2
      obtain ⟨cF, fF, cT, fT, hown, hkept, hbuf⟩ := HR.out
      have hnF := HV.out.nF
      have hnT := HV.out.nT
      simp only [List.mem_cons, List.not_mem_nil, or_false, not_or] at hnF hnT
      have bF : w2.heap[F0]? = wr.heap[F0]? := (o2.rest F0 (by simp; omega) hnF.1 hnF.2.1).trans (Below.heap_alloc _ _ _ (by omega))
      have bT : w2.heap[T0]? = wr.heap[T0]? := (o2.rest T0 (by simp; omega) hnT.1 hnT.2.1).trans (Below.heap_alloc _ _ _ (by omega))
      have cF2 : w2.cell? ⟨F0, 0, none⟩ = some (.bool true) := (World.cell?_of_block (w := wr) bF).trans cF
      have fF2 : w2.frozen? ⟨F0, 0, none⟩ = false := (World.frozen?_of_block (w := wr) bF).trans fF
      have cT2 : w2.cell? ⟨T0, 0, none⟩ = some v := (World.cell?_of_block (w := wr) bT).trans cT
      have fT2 : w2.frozen? ⟨T0, 0, none⟩ = false := (World.frozen?_of_block (w := wr) bT).trans fT
      have hw2 : wr.heap.size + 1 ≤ w2.heap.size := by have := o2.size; simpa using this
      have hbb : bb < w.heap.size := HBB.out.1
      have hlb : lb < w.heap.size := HBB.out.2
      have hown2 := ownsRow_setCell_below (a := ⟨F0, 0, none⟩) (o2.ownsRow (hown.alloc _) hbb hlb) lF (.bool true)
      have nFT : ¬ F0 = T0 := hnF.2.2
      have nTF : ¬ T0 = F0 := fun e => nFT e.symm
      have lF2 : F0 < w2.heap.size := by omega
      have lT2 : T0 < w2.heap.size := by omega
      have mF2 : ¬ F0 = w2.heap.size := by omega
      have mT2 : ¬ T0 = w2.heap.size := by omega
      clear bF bT hnF hnT hown hkept hbuf cF fF cT fT hB2 o2 e0 e1 e2 e3 eB
      have hloR := hown2.lt
      have hnews : ∀ (i : Nat) (u : Value), [Value.string t][i]? = some u → ((w2.setCell ⟨F0, 0, none⟩ (.bool true)).alloc (.cells #[.string t] 9)).cell? ((⟨w2.heap.size, 0, none⟩ : Addr).add i) = some u := fun i u h => by
        have := news_one (w2.setCell ⟨F0, 0, none⟩ (.bool true)) (.string t) 9 i u h
        rwa [show (w2.setCell ⟨F0, 0, none⟩ (.bool true)).heap.size = w2.heap.size by simp [World.setCell]] at this
      have HNW := Go.Lib.hid hnews
      clear hnews
      go_wp2_with (at_builtin; refine wpList_append_lies _ rfl _ _ 29 rfl w.heap.size 9 ib (.string ⟨#[]⟩) 1 16 Tryd.underlying29 hib hz0 hz1 hz2 rfl (by decide) v j (txts (ts.take j)) rfl (hown2.alloc _) ⟨w2.heap.size, 0, none⟩ 1 1 [.string t] rfl rfl HNW.out (by simp [Value.oneCell']) (by decide) ?c1 ?c2 ?c3 _ rfl ?_)
      case c1 => unfold maxLen; omega
      case c2 => omega
      case c3 => simp; omega
      intro g2 cap2 w3 hown3 hgrow3 _ _
      have hfar : ∀ k, k < w.heap.size → w3.heap[k]? = ((w2.setCell ⟨F0, 0, none⟩ (.bool true)).alloc (.cells #[.string t] 9)).heap[k]? := fun k hk => hgrow3.block k (by simp; omega) (fun e => by have := (hloR k e.symm).1; omega)
      have hfar2 : ∀ k, k < w.heap.size → ((w2.setCell ⟨F0, 0, none⟩ (.bool true)).alloc (.cells #[.string t] 9)).heap[k]? = (w2.setCell ⟨F0, 0, none⟩ (.bool true)).heap[k]? := fun k hk => Below.heap_alloc _ _ _ (by simp; omega)
      have eT : w3.heap[T0]? = w2.heap[T0]? := ((hfar T0 lT).trans (hfar2 T0 lT)).trans (Below.heap_setCell _ _ _ _ nTF)
      have cT3 : w3.cell? ⟨T0, 0, none⟩ = some v := (World.cell?_of_block (w := w2) eT).trans cT2
      have fT3 : w3.frozen? ⟨T0, 0, none⟩ = false := (World.frozen?_of_block (w := w2) eT).trans fT2
      have HN : Hid (Round w F0 T0 bb lb ts s2 k2 (j + 1) (.slice (some ⟨g2, 0, none⟩) (j + 1) cap2) (w3.setCell ⟨T0, 0, none⟩ (.slice (some ⟨g2, 0, none⟩) (j + 1) cap2))) :=
        round_next HR.out lF lT HV.out.nF HV.out.nT HBB.out.1 HBB.out.2 (by have := HL.out; omega) HT.out O2.out HB2.out hown3 hgrow3
      clear hown3 hgrow3 hfar hfar2 eT hown2 hloR cT2 fT2 cF2 fF2
      go_wp2_with fail
      go_roundw
      case rel => exact ⟨j + 1, s2, k2, _, by omega, by go_num, HC2.out, HN.out⟩
      case measure => simp [intOf]; omega
    · have HJ : Hid (j = ts.length) := by have := HL.out; show j = ts.length; omega
      have HF : Hid (s1 = s' ∧ k1 = k') := by
        have := HC.out
        rw [List.drop_of_length_le (by omega)] at this
        generalize ts.drop j = tl at this
        cases this with
        | nil => exact ⟨rfl, rfl⟩
      have hj1 : ¬ (j : Int) < es.length := by omega
      go_wp2_with fail
      go_returns
      refine ⟨rfl, v, ?_⟩
      have hr := HR.out
      rw [HF.out.1, HF.out.2, HJ.out] at hr
      exact hr

theorem script_none (S0 B0 F0 T0 bb lb : Nat) (A : Option Addr) (cap : Nat) (s s' : ByteArray) (k k' : Nat) (ts : List ByteArray) (w : World)
    (hv : Vars4 w S0 B0 F0 T0 bb lb A 0 cap) (hc : Chain [] s k ts s' k') (hr : Round w F0 T0 bb lb ts s k 0 (.slice none 0 0) w) :
    Calls Tryd.prog 23 #[.pointer (some ⟨S0, 0, none⟩), .pointer (some ⟨B0, 0, none⟩), .pointer (some ⟨F0, 0, none⟩), .pointer (some ⟨T0, 0, none⟩)] w (ScriptPost bb lb F0 T0 ts s' k' w) := by
  have cS := hv.cS
  cases hc
  have HR := Go.Lib.hid hr
  clear hv hr
  go_enter Tryd.func23, Tryd.ntmps23
  go_wp2_with fail
  refine wp_loop_rounds 1 ?_
  rw [rounds_succ]
  go_wp2_with fail
  go_returns
  exact ⟨rfl, _, HR.out⟩

/-- A script in memory, b and off where it lies. -/
def EdsAt (w : World) (b off : Nat) (es : List Ed) : Prop :=
  ∀ (j : Nat) (e : Ed), es[j]? = some e → w.cell? ⟨b, off + j * 4, none⟩ = some (.int .i64 e.op) ∧ w.cell? ⟨b, off + j * 4 + 1, none⟩ = some (.int .i64 e.n) ∧ w.cell? ⟨b, off + j * 4 + 2, none⟩ = some (.string e.s) ∧ w.cell? ⟨b, off + j * 4 + 3, none⟩ = some (.bool e.f)
theorem EdsAt.of {w w' : World} {b off : Nat} {es : List Ed} (h : EdsAt w b off es) (e : w'.heap[b]? = w.heap[b]?) : EdsAt w' b off es := fun j x hx => by
  have c : ∀ o, w'.cell? ⟨b, o, none⟩ = w.cell? ⟨b, o, none⟩ := fun o => World.cell?_of_block (w := w) e
  obtain ⟨h1, h2, h3, h4⟩ := h j x hx
  exact ⟨(c _).trans h1, (c _).trans h2, (c _).trans h3, (c _).trans h4⟩

theorem ownsRow_mono {w : World} {base base' : Nat} {e : TypeId} {z : Nat} {v : Value} {n : Nat} {xs : List Value} (h : w.ownsRow base e z v n xs) (hb : base' ≤ base) : w.ownsRow base' e z v n xs := by
  refine ⟨h.1, ?_⟩
  rcases h.2 with h0 | ⟨g, cap, cur, hv, hg, r⟩
  · exact .inl h0
  · exact .inr ⟨g, cap, cur, hv, by omega, r⟩

theorem caught_script (S0 B0 F0 T0 bb lb b off : Nat) (A : Option Addr) (cap : Nat) (es : List Ed) (ts : List ByteArray) (s s' : ByteArray) (k k' : Nat) (w : World)
    (hv : Vars4 w S0 B0 F0 T0 bb lb A es.length cap) (hA : es = [] ∨ (A = some ⟨b, off, none⟩ ∧ b < w.heap.size ∧ b ∉ [bb, lb, F0, T0] ∧ EdsAt w b off es))
    (hc : Chain es s k ts s' k') (hr : Round w F0 T0 bb lb ts s k 0 (.slice none 0 0) w) (hn : es.length ≤ 2147483647) :
    Calls Tryd.prog 22 #[.func (.func 23) #[] #[.pointer (some ⟨S0, 0, none⟩), .pointer (some ⟨B0, 0, none⟩), .pointer (some ⟨F0, 0, none⟩), .pointer (some ⟨T0, 0, none⟩)]] w fun e w' => e = .returned (.bool true) ∧ ∃ v, Round w F0 T0 bb lb ts s' k' ts.length v w' := by
  have eg : ∀ args w, (callFunc 23 args).run Tryd.prog w = .ok (.enter 23 args) w := fun _ _ => by kernel_rfl
  have hb0 : Below w.heap.size w (w.alloc (.cells #[.bool false] 4)) := (Below.refl _ _).alloc (Nat.le_refl _) _
  obtain ⟨cF, fF, cT, fT, hown, hk, hB⟩ := hr
  have hsz : (w.alloc (.cells #[.bool false] 4)).heap.size = w.heap.size + 1 := by simp
  have hnX : w.heap.size ∉ [bb, lb, F0, T0] := by
    have h1 := hB.sz
    have h2 := hB.lt
    have h3 := hv.lF
    have h4 := hv.lT
    simp only [List.mem_cons, List.not_mem_nil, or_false, not_or]
    omega
  have hv1 : Vars4 (w.alloc (.cells #[.bool false] 4)) S0 B0 F0 T0 bb lb A es.length cap :=
    ⟨(hb0.cell (p := ⟨S0, 0, none⟩) hv.lS).trans hv.cS, (hb0.cell (p := ⟨B0, 0, none⟩) hv.lB).trans hv.cB, by have := hv.lS; omega, by have := hv.lB; omega, by have := hv.lF; omega, by have := hv.lT; omega, hv.nS, hv.nB, hv.nF, hv.nT⟩
  have hr1 : Round (w.alloc (.cells #[.bool false] 4)) F0 T0 bb lb ts s k 0 (.slice none 0 0) (w.alloc (.cells #[.bool false] 4)) :=
    ⟨(hb0.cell (p := ⟨F0, 0, none⟩) hv.lF).trans cF, (hb0.frozen (p := ⟨F0, 0, none⟩) hv.lF).trans fF, (hb0.cell (p := ⟨T0, 0, none⟩) hv.lT).trans cT, (hb0.frozen (p := ⟨T0, 0, none⟩) hv.lT).trans fT, World.ownsRow_nil _ _ _ _, Kept.refl _ _, hB.below hb0⟩
  have hcl : Calls Tryd.prog 23 #[.pointer (some ⟨S0, 0, none⟩), .pointer (some ⟨B0, 0, none⟩), .pointer (some ⟨F0, 0, none⟩), .pointer (some ⟨T0, 0, none⟩)] (w.alloc (.cells #[.bool false] 4)) (ScriptPost bb lb F0 T0 ts s' k' (w.alloc (.cells #[.bool false] 4))) := by
    rcases hA with rfl | ⟨rfl, hbl, hbx, he⟩
    · exact script_none S0 B0 F0 T0 bb lb A cap s s' k k' ts _ hv1 hc hr1
    · exact script_some S0 B0 F0 T0 bb lb b off cap es ts s s' k k' _ hv1 (by omega) hbx (he.of (hb0.block b hbl)) hc hr1 hn
  refine (caught_ret 23 _ w (fun w1 => ∃ v, Round (w.alloc (.cells #[.bool false] 4)) F0 T0 bb lb ts s' k' ts.length v w1) eg ?_).mono ?_
  · refine hcl.mono ?_
    rintro e w1 ⟨rfl, v, hR⟩
    have hk1 := hR.2.2.2.2.2.1
    exact ⟨rfl, ⟨v, hR⟩, (hk1.cell 0 (by omega) hnX).trans (by simp), (hk1.frozen 0 (by omega) hnX).trans (by simp)⟩
  · rintro e w1 ⟨rfl, w2, ⟨v, hR⟩, rfl⟩
    obtain ⟨cF1, fF1, cT1, fT1, hown1, hk1, hB1⟩ := hR
    have c0 : w2.cell? ⟨w.heap.size, 0, none⟩ = some (.bool false) := (hk1.cell 0 (by omega) hnX).trans (by simp)
    simp only [List.mem_cons, List.not_mem_nil, or_false, not_or] at hnX
    refine ⟨rfl, v, ?_, ?_, ?_, ?_, ?_, ?_, ?_⟩
    · rw [World.cell?_setCell_other _ _ _ _ (by intro h; have := congrArg Addr.block h; simp at this; exact hnX.2.2.1 this)]; exact cF1
    · rw [World.frozen?_setCell]; exact fF1
    · rw [World.cell?_setCell_other _ _ _ _ (by intro h; have := congrArg Addr.block h; simp at this; exact hnX.2.2.2 this)]; exact cT1
    · rw [World.frozen?_setCell]; exact fT1
    · exact ownsRow_mono (ownsRow_setCell_below (a := ⟨w.heap.size, 0, none⟩) hown1 (by show w.heap.size < _; omega) _) (by omega)
    · have hk2 : Kept [bb, lb, F0, T0] w w2 := (Kept.of hb0).trans hk1
      exact ⟨hk2.os, hk2.tape, hk2.output, by simpa [World.setCell] using hk2.size, fun k hk hx => (Below.heap_setCell _ _ _ _ (by show k ≠ w.heap.size; omega)).trans (hk2.rest k hk hx)⟩
    · exact hB1.boolCell _ _ hnX.1 hnX.2.1 (fun t => by rw [c0]; simp)

def RunPost (bb lb : Nat) (ts : List ByteArray) (s' : ByteArray) (k' : Nat) (w : World) (e : Ending) (w' : World) : Prop :=
  ∃ v, e = .returned (.tuple #[.agg #[.string s', .int .i64 (k' : Nat)], v, .bool true]) ∧ w'.ownsRow w.heap.size 9 1 v ts.length (txts ts) ∧ Kept [bb, lb] w w'

set_option maxRecDepth 100000 in
set_option maxHeartbeats 4000000 in
theorem run_any (bb lb b off : Nat) (A : Option Addr) (cap : Nat) (es : List Ed) (ts : List ByteArray) (s s' : ByteArray) (k k' : Nat) (w : World) (hB : Buf w bb lb s k)
    (hA : es = [] ∨ (A = some ⟨b, off, none⟩ ∧ b < w.heap.size ∧ (b ≠ bb ∧ b ≠ lb) ∧ EdsAt w b off es)) (hc : Chain es s k ts s' k') (hn : es.length ≤ 2147483647) :
    Calls Tryd.prog 18 #[.pointer (some ⟨bb, 0, none⟩), .slice A es.length cap] w (RunPost bb lb ts s' k' w) := by
  have hmf : ∀ (fn : Fn) (first cap : Array Value) (w : World), (Instr.makeFunc fn first cap).run Tryd.prog w = .ok (.func fn first cap) w := fun _ _ _ _ => rfl
  have HB := Go.Lib.hid hB
  have HA0 := Go.Lib.hid hA
  have HC := Go.Lib.hid hc
  clear hB hA hc
  have hlt := HB.out.lt
  have hsz := HB.out.sz
  go_enter Tryd.func18, Tryd.ntmps18
  go_wp2_with fail
  have hB5 : ∀ W : World, Below w.heap.size w W → Buf W bb lb s k := fun W h => HB.out.below h
  refine (caught_script (w.heap.size + 1) w.heap.size (w.heap.size + 1 + 1 + 1 + 1) (w.heap.size + 1 + 1 + 1) bb lb b off A cap es ts s s' k k' _ ?_ ?_ HC.out ?_ hn).mono ?_
  · exact ⟨by simp [go_sem], by simp [go_sem], by simp <;> omega, by simp <;> omega, by simp <;> omega, by simp <;> omega, by simp <;> omega, by simp <;> omega, by simp <;> omega, by simp <;> omega⟩
  · rcases HA0.out with h | ⟨h, hbl, hbx, he⟩
    · exact .inl h
    · refine .inr ⟨h, ?_, ?_, he.of (((((((Below.refl w.heap.size w).alloc (Nat.le_refl _) _).alloc (by simp) _).alloc (by simp; omega) _).alloc (by simp; omega) _).alloc (by simp; omega) _).block b hbl)⟩
      · simp; omega
      · simp; omega
  · refine ⟨by simp [go_sem], by simp [go_sem], by simp [go_sem], by simp [go_sem], World.ownsRow_nil _ _ _ _, Kept.refl _ _, hB5 _ ?_⟩
    exact (((((Below.refl w.heap.size w).alloc (Nat.le_refl _) _).alloc (by simp) _).alloc (by simp; omega) _).alloc (by simp; omega) _).alloc (by simp; omega) _
  rintro e w1 ⟨rfl, v, hR⟩
  obtain ⟨cF, fF, cT, fT, hown, hk, hB1⟩ := hR
  obtain ⟨va, vn, vc, rfl⟩ : ∃ a n c, v = .slice a n c := by
    rcases hown.2 with ⟨h, _⟩ | ⟨g, cap, cur, h, _⟩ <;> exact ⟨_, _, _, h⟩
  have hz := hk.size
  have kb : w1.cell? ⟨w.heap.size, 0, none⟩ = some (.pointer (some ⟨bb, 0, none⟩)) := (hk.cell 0 (by simp <;> omega) (by simp <;> omega)).trans (by simp [go_sem])
  have d0 : w1.cell? ⟨w.heap.size + 1 + 1, 0, none⟩ = some (.string ⟨#[]⟩) := (hk.cell 0 (by simp <;> omega) (by simp <;> omega)).trans (by simp [go_sem])
  have d1 : w1.cell? ⟨w.heap.size + 1 + 1, 1, none⟩ = some (.int .i64 0) := (hk.cell 1 (by simp <;> omega) (by simp <;> omega)).trans (by simp [go_sem])
  have f0 : w1.frozen? ⟨w.heap.size + 1 + 1, 0, none⟩ = false := (hk.frozen 0 (by simp <;> omega) (by simp <;> omega)).trans (by simp [go_sem])
  have f1 : w1.frozen? ⟨w.heap.size + 1 + 1, 1, none⟩ = false := (hk.frozen 1 (by simp <;> omega) (by simp <;> omega)).trans (by simp [go_sem])
  have hk0 : Kept [bb, lb, w.heap.size + 1 + 1 + 1 + 1, w.heap.size + 1 + 1 + 1] w w1 := (Kept.of ((((((Below.refl w.heap.size w).alloc (Nat.le_refl _) _).alloc (by simp) _).alloc (by simp; omega) _).alloc (by simp; omega) _).alloc (by simp; omega) _)).trans hk
  have HO := Go.Lib.hid (ownsRow_mono hown (base' := w.heap.size + 1 + 1 + 1 + 1) (by simp))
  have HK := Go.Lib.hid hk0
  have H1 := Go.Lib.hid hB1
  have HT : Hid (∀ W : World, W.heap = w1.heap → Calls Tryd.prog 25 #[.pointer (some ⟨bb, 0, none⟩)] W fun e w' => e = .returned (.string s') ∧ ∃ m, w' = W.drewN m) := fun W hW =>
    buf_text bb lb s' k' W (H1.out.same (by rw [hW]; exact Nat.le_refl _) (fun k _ _ => by rw [hW]))
  have HA : Hid (∀ W : World, W.heap = w1.heap → Calls Tryd.prog 26 #[.pointer (some ⟨bb, 0, none⟩)] W fun e w' => e = .returned (.int .i64 (k' : Nat)) ∧ W = w') := fun W hW =>
    (buf_at bb lb s' k' W (H1.out.same (by rw [hW]; exact Nat.le_refl _) (fun k _ _ => by rw [hW]))).mono fun _ _ h => ⟨h.1, h.2.symm⟩
  clear hown hk hk0 hB1 hB5
  go_wp2_with fail
  refine region_held_tail 7 (S := (fun w' => w'.cell? ⟨w.heap.size, 0, none⟩ = some (.pointer (some ⟨bb, 0, none⟩)) ∧ w'.cell? ⟨w.heap.size + 1 + 1 + 1, 0, none⟩ = some (.slice va vn vc))) (by kernel_rfl) (by kernel_rfl) ?_ (fun hHeld => ?_)
  · (try dsimp only); first | done | (first | exact ⟨kb, cT⟩ | (refine ⟨?_, ?_⟩ <;> simp [go_sem, kb, cT]))
  refine HeldT.take (i := 0) (v := ?_) (by simp only [List.getElem?_toArray, List.getElem?_cons_succ, List.getElem?_cons_zero]; rfl) (by kernel_rfl) (by kernel_rfl) (by kernel_rfl) (by kernel_rfl) (by exact fun _ _ _ h => h) ?_ (by assumption) ?_
  rotate_left
  · refine Or.inl ⟨by rfl, ?_⟩
    (intro w hSw; (try dsimp only at hSw); go_simp; try with_reducible rfl)
  try simp only [Act.put, List.setIfInBounds_toArray, List.set_cons_zero, List.set_cons_succ]
  refine HeldT.take (i := 2) (v := ?_) (by simp only [List.getElem?_toArray, List.getElem?_cons_succ, List.getElem?_cons_zero]; rfl) (by kernel_rfl) (by kernel_rfl) (by kernel_rfl) (by kernel_rfl) (by exact fun _ _ _ h => h) ?_ (by assumption) ?_
  rotate_left
  · refine Or.inl ⟨by rfl, ?_⟩
    (intro w hSw; (try dsimp only at hSw); go_simp; try with_reducible rfl)
  try simp only [Act.put, List.setIfInBounds_toArray, List.set_cons_zero, List.set_cons_succ]
  refine HeldT.take (i := 5) (v := ?_) (by simp only [List.getElem?_toArray, List.getElem?_cons_succ, List.getElem?_cons_zero]; rfl) (by kernel_rfl) (by kernel_rfl) (by kernel_rfl) (by kernel_rfl) (by exact fun _ _ _ h => h) ?_ (by assumption) ?_
  rotate_left
  · refine Or.inl ⟨by rfl, ?_⟩
    (intro w hSw; (try dsimp only at hSw); go_simp; try with_reducible rfl)
  try simp only [Act.put, List.setIfInBounds_toArray, List.set_cons_zero, List.set_cons_succ]
  refine HeldT.one (i := 1) (by simp only [List.getElem?_toArray, List.getElem?_cons_succ, List.getElem?_cons_zero]; rfl) (by kernel_rfl) (by kernel_rfl) (fun K hK => ?_)
  go_simp
  ((refine (HT.out _ ?_).mono ?_); rfl; rintro e w2 ⟨rfl, q, rfl⟩)
  try go_wp2_with fail
  refine hK.out _ _ ?_ (fun hHeld => ?_)
  · (try dsimp only); first | done | (first | exact ⟨kb, cT⟩ | (refine ⟨?_, ?_⟩ <;> simp [go_sem, kb, cT]))
  clear hK K
  try simp only [Act.put, List.setIfInBounds_toArray, List.set_cons_zero, List.set_cons_succ]
  refine HeldT.one (i := 3) (by simp only [List.getElem?_toArray, List.getElem?_cons_succ, List.getElem?_cons_zero]; rfl) (by kernel_rfl) (by kernel_rfl) (fun K hK => ?_)
  go_simp
  ((refine (HA.out _ ?_).mono ?_); rfl; rintro e w2 ⟨rfl, rfl⟩)
  try go_wp2_with fail
  refine hK.out _ _ ?_ (fun hHeld => ?_)
  · (try dsimp only); first | done | (first | exact ⟨kb, cT⟩ | (refine ⟨?_, ?_⟩ <;> simp [go_sem, kb, cT]))
  clear hK K
  try simp only [Act.put, List.setIfInBounds_toArray, List.set_cons_zero, List.set_cons_succ]
  refine HeldT.take (i := 4) (v := ?_) (by simp only [List.getElem?_toArray, List.getElem?_cons_succ, List.getElem?_cons_zero]; rfl) (by kernel_rfl) (by kernel_rfl) (by kernel_rfl) (by kernel_rfl) (by exact fun _ _ _ h => h) ?_ (by assumption) ?_
  rotate_left
  · refine Or.inl ⟨by rfl, ?_⟩
    (intro w hSw; (try dsimp only at hSw); go_simp; try with_reducible rfl)
  try simp only [Act.put, List.setIfInBounds_toArray, List.set_cons_zero, List.set_cons_succ]
  refine HeldT.one (i := 6) (by simp only [List.getElem?_toArray, List.getElem?_cons_succ, List.getElem?_cons_zero]; rfl) (by kernel_rfl) (by kernel_rfl) (fun K hK => ?_)
  go_simp
  refine hK.out _ _ ?_ (fun hHeld => ?_)
  · (try dsimp only); first | done | (first | exact ⟨kb, cT⟩ | (refine ⟨?_, ?_⟩ <;> simp [go_sem, kb, cT]))
  clear hK K
  try simp only [Act.put, List.setIfInBounds_toArray, List.set_cons_zero, List.set_cons_succ]
  refine HeldT.tail (by kernel_rfl) rfl ?_
  go_wp2_with fail
  obtain ⟨W, hW⟩ : ∃ W, W = w1.drewN (1 + q) := ⟨_, rfl⟩
  have hcell : ∀ a, W.cell? a = w1.cell? a := fun a => by rw [hW]; rfl
  have hheap : W.heap = w1.heap := by rw [hW]; rfl
  have HKW : Hid (Kept [bb, lb, w.heap.size + 1 + 1 + 1 + 1, w.heap.size + 1 + 1 + 1] w W) := by rw [hW]; exact HK.out.trans (Kept.of (below_drewN (Below.refl _ _) _))
  have HOW : Hid (W.ownsRow (w.heap.size + 1 + 1 + 1 + 1) 9 1 (.slice va vn vc) ts.length (txts ts)) := by
    have := HO.out
    rw [List.take_of_length_le (Nat.le_refl _)] at this
    rw [hW]; exact this
  rw [← hW]
  have e0 := (hcell ⟨w.heap.size + 1 + 1, 0, none⟩).trans d0
  have e1 := (hcell ⟨w.heap.size + 1 + 1, 1, none⟩).trans d1
  have eT := (hcell ⟨w.heap.size + 1 + 1 + 1, 0, none⟩).trans cT
  have q0 : (((W.setCell ⟨w.heap.size + 1 + 1, 0, none⟩ (.string s')).setCell ⟨w.heap.size + 1 + 1, 1, none⟩ (.int .i64 (k' : Nat))).setCell ⟨w.heap.size + 1 + 1 + 1, 0, none⟩ (.slice va vn vc)).cell? ⟨w.heap.size + 1 + 1, 0, none⟩ = some (.string s') := by
    rw [World.cell?_setCell_other _ _ _ _ (by simp), World.cell?_setCell_other _ _ _ _ (by simp), World.cell?_setCell_same' _ _ _ (by rw [e0]; rfl)]
  have q1 : (((W.setCell ⟨w.heap.size + 1 + 1, 0, none⟩ (.string s')).setCell ⟨w.heap.size + 1 + 1, 1, none⟩ (.int .i64 (k' : Nat))).setCell ⟨w.heap.size + 1 + 1 + 1, 0, none⟩ (.slice va vn vc)).cell? ⟨w.heap.size + 1 + 1, 1, none⟩ = some (.int .i64 (k' : Nat)) := by
    rw [World.cell?_setCell_other _ _ _ _ (by simp), World.cell?_setCell_same' _ _ _ (by rw [World.cell?_setCell_other _ _ _ _ (by simp), e1]; rfl)]
  have q2 : (((W.setCell ⟨w.heap.size + 1 + 1, 0, none⟩ (.string s')).setCell ⟨w.heap.size + 1 + 1, 1, none⟩ (.int .i64 (k' : Nat))).setCell ⟨w.heap.size + 1 + 1 + 1, 0, none⟩ (.slice va vn vc)).cell? ⟨w.heap.size + 1 + 1 + 1, 0, none⟩ = some (.slice va vn vc) :=
    World.cell?_setCell_same' _ _ _ (by rw [World.cell?_setCell_other _ _ _ _ (by simp), World.cell?_setCell_other _ _ _ _ (by simp), eT]; rfl)
  have hng : Hid ((((W.setCell ⟨w.heap.size + 1 + 1, 0, none⟩ (.string s')).setCell ⟨w.heap.size + 1 + 1, 1, none⟩ (.int .i64 (k' : Nat))).setCell ⟨w.heap.size + 1 + 1 + 1, 0, none⟩ (.slice va vn vc)).ownsRow w.heap.size 9 1 (.slice va vn vc) ts.length (txts ts)) :=
    ownsRow_mono (ownsRow_setCell_below (a := ⟨w.heap.size + 1 + 1 + 1, 0, none⟩) (ownsRow_setCell_below (a := ⟨w.heap.size + 1 + 1, 1, none⟩) (ownsRow_setCell_below (a := ⟨w.heap.size + 1 + 1, 0, none⟩) HOW.out (by show w.heap.size + 1 + 1 < _; omega) _) (by show w.heap.size + 1 + 1 < _; omega) _) (by show w.heap.size + 1 + 1 + 1 < _; omega) _) (by omega)
  have hkk : Hid (Kept [bb, lb] w (((W.setCell ⟨w.heap.size + 1 + 1, 0, none⟩ (.string s')).setCell ⟨w.heap.size + 1 + 1, 1, none⟩ (.int .i64 (k' : Nat))).setCell ⟨w.heap.size + 1 + 1 + 1, 0, none⟩ (.slice va vn vc))) := by
    refine ⟨HKW.out.os, HKW.out.tape, HKW.out.output, by simpa [World.setCell] using HKW.out.size, fun i hi hx => ?_⟩
    rw [Below.heap_setCell _ _ _ _ (by show i ≠ w.heap.size + 1 + 1 + 1; omega), Below.heap_setCell _ _ _ _ (by show i ≠ w.heap.size + 1 + 1; omega), Below.heap_setCell _ _ _ _ (by show i ≠ w.heap.size + 1 + 1; omega)]
    refine HKW.out.rest i hi ?_
    simp only [List.mem_cons, List.not_mem_nil, or_false, not_or] at hx ⊢
    omega
  clear hcell hheap e0 e1 eT
  refine bodyPost_ret (v := .tuple #[.agg #[.string s', .int .i64 (k' : Nat)], .slice va vn vc, .bool true]) (by simp [results, Tryd.results18, go_sem, q0, q1, q2]) rfl ⟨_, rfl, hng.out, hkk.out⟩
end Go.Proofs.YtedjjimabchffaaDoor
