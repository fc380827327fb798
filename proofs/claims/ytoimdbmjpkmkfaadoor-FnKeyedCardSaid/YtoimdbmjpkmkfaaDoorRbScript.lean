/- A script of steps over a line: Keyed$1, caught, Keyed. -/
import Derived.Test.YtoimdbmjpkmkfaaDoorRbKeys
import Derived.Test.YtoimdbmjpkmkfaaDoorCaught
namespace Go.Proofs.YtoimdbmjpkmkfaaDoor
open Go.RowKit
set_option linter.unusedVariables false
set_option linter.unusedSimpArgs false

inductive Chain : List Ky → List Int → Nat → List Int → List Int → List Int → Nat → List Int → Prop
  | nil (l : List Int) (k : Nat) (kept : List Int) : Chain [] l k kept [] l k kept
  | cons {e : Ky} {es : List Ky} {l : List Int} {k : Nat} {kept : List Int} {t : Int} {l1 : List Int} {k1 : Nat} {kept1 : List Int} {ts : List Int} {l' : List Int} {k' : Nat} {kept' : List Int} :
      KeyOk e l k kept t l1 k1 kept1 → Chain es l1 k1 kept1 ts l' k' kept' → Chain (e :: es) l k kept (t :: ts) l' k' kept'

theorem Chain.len {es : List Ky} {l : List Int} {k : Nat} {kept ts l' : List Int} {k' : Nat} {kept' : List Int} (h : Chain es l k kept ts l' k' kept') : ts.length = es.length := by
  induction h with
  | nil => rfl
  | cons _ _ ih => simp [ih]

theorem Chain.append {es fs : List Ky} {l : List Int} {k : Nat} {kept ts us l1 : List Int} {k1 : Nat} {kept1 l' : List Int} {k' : Nat} {kept' : List Int} (h : Chain es l k kept ts l1 k1 kept1) (h2 : Chain fs l1 k1 kept1 us l' k' kept') : Chain (es ++ fs) l k kept (ts ++ us) l' k' kept' := by
  induction h with
  | nil => exact h2
  | cons a _ ih => exact .cons a (ih h2)

/-- What is left to do from the j-th step on. -/
theorem Chain.at {es : List Ky} {l : List Int} {k : Nat} {kept ts l' : List Int} {k' : Nat} {kept' : List Int} (j : Nat) (hj : j < es.length) (h : Chain (es.drop j) l k kept (ts.drop j) l' k' kept') :
    ∃ t l1 k1 kept1, KeyOk (es[j]'hj) l k kept t l1 k1 kept1 ∧ ts[j]? = some t ∧ Chain (es.drop (j + 1)) l1 k1 kept1 (ts.drop (j + 1)) l' k' kept' := by
  rw [List.drop_eq_getElem_cons hj] at h
  generalize htj : ts.drop j = tj at h
  cases h with
  | cons h1 h2 =>
    rename_i t l1 k1 kept1 ts1
    refine ⟨t, l1, k1, kept1, h1, ?_, ?_⟩
    · have : (ts.drop j)[0]? = some t := by rw [htj]; rfl
      simpa using this
    · have : ts.drop (j + 1) = ts1 := by rw [← List.tail_drop, htj]; rfl
      rw [this]; exact h2

/-- All but a buffer's own, and some blocks, is as it was. -/
structure Kept (rb : Nat) (X : List Nat) (w w' : World) : Prop where
  os : w'.os = w.os
  tape : w'.tape = w.tape
  output : w'.output = w.output
  size : w.heap.size ≤ w'.heap.size
  rest : ∀ k, k < w.heap.size → k ∉ X → k ≠ rb → (k ≤ rb ∨ ¬ I32 w k) → w'.heap[k]? = w.heap[k]?
theorem Kept.refl (rb : Nat) (X : List Nat) (w : World) : Kept rb X w w := ⟨rfl, rfl, rfl, Nat.le_refl _, fun _ _ _ _ _ => rfl⟩
theorem Kept.trans {rb : Nat} {X : List Nat} {a b c : World} (h : Kept rb X a b) (k : Kept rb X b c) : Kept rb X a c :=
  ⟨k.os.trans h.os, k.tape.trans h.tape, k.output.trans h.output, Nat.le_trans h.size k.size, fun i hi h1 h2 h3 =>
    have e := h.rest i hi h1 h2 h3
    (k.rest i (Nat.lt_of_lt_of_le hi h.size) h1 h2 (h3.imp id fun hn h' => hn (h'.of e.symm))).trans e⟩
theorem Kept.of {rb : Nat} {X : List Nat} {w w' : World} (h : Below w.heap.size w w') : Kept rb X w w' := ⟨h.os, h.tape, h.output, h.size, fun k hk _ _ _ => h.block k hk⟩
theorem Kept.own {rb : Nat} {X : List Nat} {w w' : World} (h : Own rb w w') : Kept rb X w w' := ⟨h.os, h.tape, h.output, h.size, fun k hk _ h1 h2 => h.rest k hk h1 h2⟩
theorem Kept.alloc {rb : Nat} {X : List Nat} {a w : World} (h : Kept rb X a w) (o : Obj) : Kept rb X a (w.alloc o) := h.trans (.of ((Below.refl _ _).alloc (Nat.le_refl _) _))
theorem Kept.set {rb : Nat} {X : List Nat} {a w : World} (h : Kept rb X a w) (b o : Nat) (u : Value) (hb : b ∈ X) : Kept rb X a (w.setCell ⟨b, o, none⟩ u) :=
  h.trans ⟨rfl, rfl, rfl, by simp [World.setCell], fun k _ hx _ _ => Below.heap_setCell _ _ _ _ (fun e => hx (by rw [e]; exact hb))⟩
theorem Kept.grown {rb : Nat} {X : List Nat} {a w w' : World} {row : Option Nat} (h : Kept rb X a w) (hg : w.grownBy w' row) (hr : ∀ k, row = some k → a.heap.size ≤ k) : Kept rb X a w' :=
  ⟨hg.os.trans h.os, hg.tape.trans h.tape, hg.output.trans h.output, Nat.le_trans h.size hg.size, fun k hk hx h1 h2 => (hg.block k (Nat.lt_of_lt_of_le hk h.size) (fun e => by have := hr k e.symm; omega)).trans (h.rest k hk hx h1 h2)⟩
theorem Kept.cell {rb : Nat} {X : List Nat} {w w' : World} (h : Kept rb X w w') {b : Nat} (o : Nat) (hb : b < w.heap.size) (hx : b ∉ X) (hr : b ≠ rb) (hi : b ≤ rb ∨ ¬ I32 w b) : w'.cell? ⟨b, o, none⟩ = w.cell? ⟨b, o, none⟩ := World.cell?_of_block (w := w) (h.rest b hb hx hr hi)
theorem Kept.frozen {rb : Nat} {X : List Nat} {w w' : World} (h : Kept rb X w w') {b : Nat} (o : Nat) (hb : b < w.heap.size) (hx : b ∉ X) (hr : b ≠ rb) (hi : b ≤ rb ∨ ¬ I32 w b) : w'.frozen? ⟨b, o, none⟩ = w.frozen? ⟨b, o, none⟩ := World.frozen?_of_block (w := w) (h.rest b hb hx hr hi)

theorem not_i32 {w : World} {g : Nat} {cur : Array Value} {t : TypeId} {fz : Nat × Nat} (h : w.heap[g]? = some (.cells cur t fz)) (ht : t ≠ 21) : ¬ I32 w g := fun ⟨c, f, e⟩ => by
  rw [h] at e; simp at e; exact ht e.2.1

theorem Own.ownsRow {rb : Nat} {w w' : World} (h : Own rb w w') {base : Nat} {e : TypeId} (he : e ≠ 21) {v : Value} {n : Nat} {xs : List Value} (ho : w.ownsRow base e 1 v n xs) (hb : rb < base) : w'.ownsRow base e 1 v n xs := by
  refine ⟨ho.1, ?_⟩
  rcases ho.2 with h0 | ⟨g, cap, cur, hv, hg, hh, r⟩
  · exact .inl h0
  · exact .inr ⟨g, cap, cur, hv, hg, by rw [h.rest g (Array.getElem?_eq_some_iff.1 hh).1 (by omega) (.inr (not_i32 hh he))]; exact hh, r⟩

def ints (l : List Int) : List Value := l.map (.int .i64)

/-- What a script's closure finds: its four variables. -/
structure Vars4 (w : World) (S0 B0 F0 T0 rb : Nat) (A : Option Addr) (n cap : Nat) : Prop where
  cS : w.cell? ⟨S0, 0, none⟩ = some (.slice A n cap)
  cB : w.cell? ⟨B0, 0, none⟩ = some (.pointer (some ⟨rb, 0, none⟩))
  lS : S0 < w.heap.size
  lB : B0 < w.heap.size
  lF : F0 < w.heap.size
  lT : T0 < w.heap.size
  nS : S0 ∉ [F0, T0]
  nB : B0 ∉ [F0, T0]
  nF : F0 ≠ T0
  sb : S0 < rb
  bb : B0 ≠ rb
  tb : T0 < rb
  fb : F0 ≠ rb
  iB : ¬ I32 w B0

def Round (w : World) (F0 T0 rb : Nat) (ts : List Int) (l : List Int) (k : Nat) (kept : List Int) (j : Nat) (v : Value) (wr : World) : Prop :=
  wr.cell? ⟨F0, 0, none⟩ = some (.bool true) ∧ wr.frozen? ⟨F0, 0, none⟩ = false ∧ wr.cell? ⟨T0, 0, none⟩ = some v ∧ wr.frozen? ⟨T0, 0, none⟩ = false ∧
  wr.ownsRow w.heap.size 3 1 v j (ints (ts.take j)) ∧ Kept rb [F0, T0] w wr ∧ RB wr rb l k kept ∧ ¬ I32 wr F0

def ScriptPost (rb F0 T0 : Nat) (ts l' : List Int) (k' : Nat) (kept' : List Int) (w : World) (e : Ending) (w' : World) : Prop :=
  e = .returned (.tuple #[]) ∧ ∃ v, Round w F0 T0 rb ts l' k' kept' ts.length v w'

theorem RB.sz {w : World} {rb : Nat} {l : List Int} {k : Nat} {kept : List Int} (h : RB w rb l k kept) : rb < w.heap.size := by obtain ⟨_, _, _, _, h⟩ := h; exact h.sz
theorem RB.setVar {w : World} {rb : Nat} {l : List Int} {k : Nat} {kept : List Int} (h : RB w rb l k kept) (F : Nat) (u : Value) (hb : F ≠ rb) (hi : F < rb ∨ ¬ I32 w F) : RB (w.setCell ⟨F, 0, none⟩ u) rb l k kept :=
  h.same (by simp [World.setCell]) (fun k hk hx => Below.heap_setCell _ _ _ _ (by
    rintro rfl
    rcases hx with e | ⟨e1, e2⟩
    · exact hb e
    · rcases hi with hi | hi
      · exact absurd e1 (Nat.not_lt_of_lt hi)
      · exact hi e2))
theorem RB.grown {w w' : World} {rb : Nat} {l : List Int} {k : Nat} {kept : List Int} (h : RB w rb l k kept) {row : Option Nat} (hg : w.grownBy w' row) {base : Nat} {e : TypeId} (he : e ≠ 21) {v : Value} {n : Nat} {xs : List Value} (hr : row = v.ownBlock) (ho : w.ownsRow base e 1 v n xs) (hb : rb < base) : RB w' rb l k kept :=
  h.same hg.size (fun k hk hx => hg.block k hk (by
    intro e'
    rw [hr] at e'
    obtain ⟨hlo, hlt⟩ := ho.lt k e'.symm
    rcases hx with e | ⟨_, e⟩
    · omega
    · rcases ho.2 with ⟨rfl, _⟩ | ⟨g, cap, cur, rfl, _, hh, _⟩
      · simp [Value.ownBlock] at e'
      · have : k = g := by simpa [Value.ownBlock] using e'
        subst this
        exact not_i32 hh he e))

/-- A round of a script. -/
theorem round_next {w wr w2 w3 : World} {F0 T0 rb : Nat} {ts : List Int} {l1 l2 kept1 kept2 : List Int} {k1 k2 j : Nat} {v v2 : Value} {t : Int} {o o' : Obj}
    (hR : Round w F0 T0 rb ts l1 k1 kept1 j v wr) (hF : F0 < w.heap.size) (hT : T0 < w.heap.size) (nF : F0 ≠ T0) (tb : T0 < rb) (fb : F0 ≠ rb) (hrb : rb < w.heap.size)
    (hj : j < ts.length) (ht : ts[j]? = some t) (o2 : Own rb (wr.alloc o) w2) (hB2 : RB w2 rb l2 k2 kept2)
    (hown3 : w3.ownsRow w.heap.size 3 1 v2 (j + 1) (ints (ts.take j) ++ [.int .i64 t])) (hg : ((w2.setCell ⟨F0, 0, none⟩ (.bool true)).alloc o').grownBy w3 v.ownBlock) :
    Round w F0 T0 rb ts l2 k2 kept2 (j + 1) v2 (w3.setCell ⟨T0, 0, none⟩ v2) := by
  obtain ⟨cF, fF, cT, fT, hown, hkept, _, iF⟩ := hR
  have hws := hkept.size
  have hlo := hown.lt
  have z1 : wr.heap.size + 1 ≤ w2.heap.size := by have := o2.size; simpa using this
  have ea : ∀ k, k < w.heap.size → (wr.alloc o).heap[k]? = wr.heap[k]? := fun k hk => Below.heap_alloc _ _ _ (by omega)
  have eF : w2.heap[F0]? = wr.heap[F0]? := (o2.rest F0 (by simp; omega) fb (.inr fun h' => iF (h'.of (ea F0 hF).symm))).trans (ea F0 hF)
  have eT0 : w2.heap[T0]? = wr.heap[T0]? := (o2.rest T0 (by simp; omega) (by omega) (.inl (by omega))).trans (ea T0 hT)
  have iF2 : ¬ I32 w2 F0 := fun h' => iF (h'.of eF.symm)
  have hown2 : w2.ownsRow w.heap.size 3 1 v j (ints (ts.take j)) := o2.ownsRow (by decide) (hown.alloc o) hrb
  have hown2' := (ownsRow_setCell_below (a := ⟨F0, 0, none⟩) hown2 hF (.bool true)).alloc o'
  have cF2 : w2.cell? ⟨F0, 0, none⟩ = some (.bool true) := (World.cell?_of_block (w := wr) eF).trans cF
  have cT2 : w2.cell? ⟨T0, 0, none⟩ = some v := (World.cell?_of_block (w := wr) eT0).trans cT
  have hB3 : RB (w2.setCell ⟨F0, 0, none⟩ (.bool true)) rb l2 k2 kept2 := hB2.setVar F0 _ fb (.inr iF2)
  have hB4 : RB ((w2.setCell ⟨F0, 0, none⟩ (.bool true)).alloc o') rb l2 k2 kept2 := hB3.below ((Below.refl _ _).alloc (Nat.le_refl _) _)
  have hB5 : RB w3 rb l2 k2 kept2 := hB4.grown hg (e := 3) (by decide) rfl hown2' hrb
  have far : ∀ b, b < w.heap.size → w3.heap[b]? = ((w2.setCell ⟨F0, 0, none⟩ (.bool true)).alloc o').heap[b]? := fun b hb => hg.block b (by simp [World.setCell]; omega) (fun e => by have := (hlo b e.symm).1; omega)
  have back : ∀ b, b < w.heap.size → ((w2.setCell ⟨F0, 0, none⟩ (.bool true)).alloc o').heap[b]? = (w2.setCell ⟨F0, 0, none⟩ (.bool true)).heap[b]? := fun b hb => Below.heap_alloc _ _ _ (by simp [World.setCell]; omega)
  have eF3 : w3.heap[F0]? = (w2.setCell ⟨F0, 0, none⟩ (.bool true)).heap[F0]? := (far F0 hF).trans (back F0 hF)
  have cF3 : w3.cell? ⟨F0, 0, none⟩ = some (.bool true) := (World.cell?_of_block (w := w2.setCell ⟨F0, 0, none⟩ (.bool true)) eF3).trans (World.cell?_setCell_same' _ _ _ (by rw [cF2]; rfl))
  have fF3 : w3.frozen? ⟨F0, 0, none⟩ = false := (World.frozen?_of_block (w := w2.setCell ⟨F0, 0, none⟩ (.bool true)) eF3).trans (by rw [World.frozen?_setCell]; exact (World.frozen?_of_block (w := wr) eF).trans fF)
  have iF3 : ¬ I32 w3 F0 := fun h' => iF2 (i32_setCell (h'.of eF3.symm))
  have eT : w3.heap[T0]? = w2.heap[T0]? := ((far T0 hT).trans (back T0 hT)).trans (Below.heap_setCell _ _ _ _ (Ne.symm nF))
  have cT3 : w3.cell? ⟨T0, 0, none⟩ = some v := (World.cell?_of_block (w := w2) eT).trans cT2
  have fT3 : w3.frozen? ⟨T0, 0, none⟩ = false := (World.frozen?_of_block (w := w2) eT).trans ((World.frozen?_of_block (w := wr) eT0).trans fT)
  have hk3 : Kept rb [F0, T0] w w3 := ((((hkept.alloc o).trans (Kept.own o2)).set F0 0 _ (by simp)).alloc o').grown hg (fun k e => (hlo k e).1)
  refine ⟨?_, ?_, ?_, ?_, ?_, hk3.set T0 0 _ (by simp), ?_, fun h' => iF3 (i32_setCell h')⟩
  · rw [World.cell?_setCell_other _ _ _ _ (by intro h; have := congrArg Addr.block h; simp at this; exact nF this.symm)]; exact cF3
  · rw [World.frozen?_setCell]; exact fF3
  · exact World.cell?_setCell_same' _ _ _ (by rw [cT3]; rfl)
  · rw [World.frozen?_setCell]; exact fT3
  · have e : ints (ts.take (j + 1)) = ints (ts.take j) ++ [.int .i64 t] := by
      have : ts.take (j + 1) = ts.take j ++ [t] := by rw [List.take_add_one, ht]; rfl
      rw [this]; simp [ints]
    rw [e]
    exact ownsRow_setCell_below (a := ⟨T0, 0, none⟩) hown3 hT v2
  · exact hB5.setVar T0 _ (by omega) (.inl tb)

theorem news_one (w : World) (v : Value) (t : TypeId) : ∀ (j : Nat) (u : Value), [v][j]? = some u → (w.alloc (.cells #[v] t)).cell? ((⟨w.heap.size, 0, none⟩ : Addr).add j) = some u := by
  intro j u h
  match j, h with
  | 0, h => simp at h; subst h; simp [Addr.add]
  | j + 1, h => simp at h

/-- A script in memory, b and off where it lies. -/
def KysAt (w : World) (b off : Nat) (es : List Ky) : Prop :=
  ∀ (j : Nat) (e : Ky), es[j]? = some e → w.cell? ⟨b, off + j * 5, none⟩ = some (.int .i64 e.op) ∧ w.cell? ⟨b, off + j * 5 + 1, none⟩ = some (.string e.s) ∧ w.cell? ⟨b, off + j * 5 + 2, none⟩ = some (.int .i64 e.n) ∧ w.cell? ⟨b, off + j * 5 + 3, none⟩ = some (.bool e.f) ∧ w.cell? ⟨b, off + j * 5 + 4, none⟩ = some (.bool e.b)
theorem KysAt.of {w w' : World} {b off : Nat} {es : List Ky} (h : KysAt w b off es) (e : w'.heap[b]? = w.heap[b]?) : KysAt w' b off es := fun j x hx => by
  have c : ∀ o, w'.cell? ⟨b, o, none⟩ = w.cell? ⟨b, o, none⟩ := fun o => World.cell?_of_block (w := w) e
  obtain ⟨h1, h2, h3, h4, h5⟩ := h j x hx
  exact ⟨(c _).trans h1, (c _).trans h2, (c _).trans h3, (c _).trans h4, (c _).trans h5⟩

set_option maxRecDepth 100000 in
set_option maxHeartbeats 4000000 in
theorem script_some (S0 B0 F0 T0 rb b off : Nat) (cap : Nat) (es : List Ky) (ts l l' kept kept' : List Int) (k k' : Nat) (w : World)
    (hv : Vars4 w S0 B0 F0 T0 rb (some ⟨b, off, none⟩) es.length cap) (hbl : b < rb) (hbx : b ∉ [F0, T0])
    (he : KysAt w b off es)
    (hc : Chain es l k kept ts l' k' kept') (hr : Round w F0 T0 rb ts l k kept 0 (.slice none 0 0) w) (hn : es.length ≤ 2147483647) :
    Calls Tryd.prog 22 #[.pointer (some ⟨S0, 0, none⟩), .pointer (some ⟨B0, 0, none⟩), .pointer (some ⟨F0, 0, none⟩), .pointer (some ⟨T0, 0, none⟩)] w (ScriptPost rb F0 T0 ts l' k' kept' w) := by
  obtain ⟨ib, hib, hz0, hz1, hz2⟩ := info_parts (show (Tryd.prog.info? 3).map (fun i => (i.zero, i.size, i.bytes)) = some (some (.int .i64 0), 1, 8) by kernel_rfl)
  have HV := Go.Lib.hid hv
  have HE := Go.Lib.hid he
  have HBX := Go.Lib.hid hbx
  have HC0 := Go.Lib.hid hc
  have HR0 := Go.Lib.hid hr
  have HL := Go.Lib.hid hc.len
  have HBB : Hid (rb < w.heap.size) := hr.2.2.2.2.2.2.1.sz
  have cS := hv.cS
  clear hv he hc hr hbx
  go_enter Tryd.func22, Tryd.ntmps22
  go_wp2_with fail
  go_loopw [10] (fun i wr => ∃ (j : Nat) (s1 : List Int) (k1 : Nat) (q1 : List Int) (v : Value), j ≤ es.length ∧ i = .int .i64 j ∧ Hid (Chain (es.drop j) s1 k1 q1 (ts.drop j) l' k' kept') ∧ Hid (Round w F0 T0 rb ts s1 k1 q1 j v wr)) (fun i _ => es.length - (intOf i).toNat)
  case atStart => exact ⟨0, l, k, kept, _, Nat.zero_le _, rfl, HC0.out, HR0.out⟩
  case round =>
    obtain ⟨j, s1, k1, q1, v, hj, rfl, HC, HR⟩ := hrel
    by_cases hlt : j < es.length
    · obtain ⟨t, s2, k2, q2, hstep, ht, hC2⟩ := HC.out.at j hlt
      have hje : es[j]? = some es[j] := List.getElem?_eq_getElem hlt
      generalize es[j] = e at hstep hje
      obtain ⟨c0, c1, c2, c3, c4⟩ := HE.out j e hje
      obtain ⟨op, str, n, fl, bk⟩ := e
      have HS : Hid (∀ w, RB w rb s1 k1 q1 → Calls Tryd.prog 23 #[.pointer (some ⟨rb, 0, none⟩), .agg #[.int .i64 op, .string str, .int .i64 n, .bool fl, .bool bk]] w (KeyPost rb t s2 k2 q2 w)) := fun w h => hstep rb w h
      have HT := Go.Lib.hid ht
      have HC2 := Go.Lib.hid hC2
      have hkept := HR.out.2.2.2.2.2.1
      have hsrb := HBB.out
      have hbw : b < w.heap.size := by omega
      have hbn : b ≠ rb := by omega
      have hble : b ≤ rb ∨ ¬ I32 w b := .inl (by omega)
      have e0 := (hkept.cell (off + j * 5) hbw HBX.out hbn hble).trans c0
      have e1 := (hkept.cell (off + j * 5 + 1) hbw HBX.out hbn hble).trans c1
      have e2 := (hkept.cell (off + j * 5 + 2) hbw HBX.out hbn hble).trans c2
      have e3 := (hkept.cell (off + j * 5 + 3) hbw HBX.out hbn hble).trans c3
      have e4 := (hkept.cell (off + j * 5 + 4) hbw HBX.out hbn hble).trans c4
      have eB := (hkept.cell 0 HV.out.lB HV.out.nB HV.out.bb (.inr HV.out.iB)).trans HV.out.cB
      simp only at e0 e1 e2 e3 e4
      clear c0 c1 c2 c3 c4 cS hkept hje hstep ht hC2 hbw hbn hble
      have hj0 : (0 : Int) ≤ j := by omega
      have hj1 : (j : Int) < es.length := by omega
      have hws := HR.out.2.2.2.2.2.1.size
      have lB := HV.out.lB
      have lF := HV.out.lF
      have lT := HV.out.lT
      have nB1 : B0 < wr.heap.size := by omega
      have nB2 : ¬ B0 = wr.heap.size := by omega
      have H1 : Hid (RB (wr.alloc (.cells #[.int .i64 op, .string str, .int .i64 n, .bool fl, .bool bk] 30)) rb s1 k1 q1) := HR.out.2.2.2.2.2.2.1.below ((Below.refl _ _).alloc (Nat.le_refl _) _)
      go_wp2_with fail
      refine (HS.out _ H1.out).mono ?_
      rintro e w2 hP
      obtain ⟨rfl, hB2, o2⟩ := hP
      have HB2 := Go.Lib.hid hB2
      have O2 := Go.Lib.hid o2
      obtain ⟨cF, fF, cT, fT, hown, hkept, hbuf, iF⟩ := HR.out
      have hnF := HV.out.nF
      have htb := HV.out.tb
      have hfb := HV.out.fb
      have ea : ∀ q, q < w.heap.size → (wr.alloc (.cells #[.int .i64 op, .string str, .int .i64 n, .bool fl, .bool bk] 30)).heap[q]? = wr.heap[q]? := fun q hq => Below.heap_alloc _ _ _ (by omega)
      have bF : w2.heap[F0]? = wr.heap[F0]? := (o2.rest F0 (by simp; omega) hfb (.inr fun h' => iF (h'.of (ea F0 lF).symm))).trans (ea F0 lF)
      have bT : w2.heap[T0]? = wr.heap[T0]? := (o2.rest T0 (by simp; omega) (by omega) (.inl (by omega))).trans (ea T0 lT)
      have cF2 : w2.cell? ⟨F0, 0, none⟩ = some (.bool true) := (World.cell?_of_block (w := wr) bF).trans cF
      have fF2 : w2.frozen? ⟨F0, 0, none⟩ = false := (World.frozen?_of_block (w := wr) bF).trans fF
      have cT2 : w2.cell? ⟨T0, 0, none⟩ = some v := (World.cell?_of_block (w := wr) bT).trans cT
      have fT2 : w2.frozen? ⟨T0, 0, none⟩ = false := (World.frozen?_of_block (w := wr) bT).trans fT
      have hw2 : wr.heap.size + 1 ≤ w2.heap.size := by have := o2.size; simpa using this
      have hown2 := ownsRow_setCell_below (a := ⟨F0, 0, none⟩) (o2.ownsRow (by decide) (hown.alloc _) HBB.out) lF (.bool true)
      have nFT : ¬ F0 = T0 := hnF
      have nTF : ¬ T0 = F0 := fun e => nFT e.symm
      have lF2 : F0 < w2.heap.size := by omega
      have lT2 : T0 < w2.heap.size := by omega
      have mF2 : ¬ F0 = w2.heap.size := by omega
      have mT2 : ¬ T0 = w2.heap.size := by omega
      clear bF bT hnF hown hkept hbuf cF fF cT fT hB2 o2 e0 e1 e2 e3 e4 eB ea iF htb hfb
      have hloR := hown2.lt
      have hnews : ∀ (i : Nat) (u : Value), [Value.int .i64 t][i]? = some u → ((w2.setCell ⟨F0, 0, none⟩ (.bool true)).alloc (.cells #[.int .i64 t] 3)).cell? ((⟨w2.heap.size, 0, none⟩ : Addr).add i) = some u := fun i u h => by
        have := news_one (w2.setCell ⟨F0, 0, none⟩ (.bool true)) (.int .i64 t) 3 i u h
        rwa [show (w2.setCell ⟨F0, 0, none⟩ (.bool true)).heap.size = w2.heap.size by simp [World.setCell]] at this
      have HNW := Go.Lib.hid hnews
      clear hnews
      go_wp2_with (at_builtin; refine wpList_append_lies _ rfl _ _ 27 rfl w.heap.size 3 ib (.int .i64 0) 1 8 Tryd.underlying27 hib hz0 hz1 hz2 rfl (by decide) v j (ints (ts.take j)) rfl (hown2.alloc _) ⟨w2.heap.size, 0, none⟩ 1 1 [.int .i64 t] rfl rfl HNW.out (by simp [Value.oneCell']) (by decide) ?c1 ?c2 ?c3 _ rfl ?_)
      case c1 => unfold maxLen; omega
      case c2 => omega
      case c3 => simp; omega
      intro g2 cap2 w3 hown3 hgrow3 _ _
      have hfar : ∀ k, k < w.heap.size → w3.heap[k]? = ((w2.setCell ⟨F0, 0, none⟩ (.bool true)).alloc (.cells #[.int .i64 t] 3)).heap[k]? := fun k hk => hgrow3.block k (by simp; omega) (fun e => by have := (hloR k e.symm).1; omega)
      have hfar2 : ∀ k, k < w.heap.size → ((w2.setCell ⟨F0, 0, none⟩ (.bool true)).alloc (.cells #[.int .i64 t] 3)).heap[k]? = (w2.setCell ⟨F0, 0, none⟩ (.bool true)).heap[k]? := fun k hk => Below.heap_alloc _ _ _ (by simp; omega)
      have eT : w3.heap[T0]? = w2.heap[T0]? := ((hfar T0 lT).trans (hfar2 T0 lT)).trans (Below.heap_setCell _ _ _ _ nTF)
      have cT3 : w3.cell? ⟨T0, 0, none⟩ = some v := (World.cell?_of_block (w := w2) eT).trans cT2
      have fT3 : w3.frozen? ⟨T0, 0, none⟩ = false := (World.frozen?_of_block (w := w2) eT).trans fT2
      have HN : Hid (Round w F0 T0 rb ts s2 k2 q2 (j + 1) (.slice (some ⟨g2, 0, none⟩) (j + 1) cap2) (w3.setCell ⟨T0, 0, none⟩ (.slice (some ⟨g2, 0, none⟩) (j + 1) cap2))) :=
        round_next HR.out lF lT HV.out.nF HV.out.tb HV.out.fb HBB.out (by have := HL.out; omega) HT.out O2.out HB2.out hown3 hgrow3
      clear hown3 hgrow3 hfar hfar2 eT hown2 hloR cT2 fT2 cF2 fF2
      go_wp2_with fail
      go_roundw
      case rel => exact ⟨j + 1, s2, k2, q2, _, by omega, by go_num, HC2.out, HN.out⟩
      case measure => simp [intOf]; omega
    · have HJ : Hid (j = ts.length) := by have := HL.out; show j = ts.length; omega
      have HF : Hid (s1 = l' ∧ k1 = k' ∧ q1 = kept') := by
        have := HC.out
        rw [List.drop_of_length_le (by omega)] at this
        generalize ts.drop j = tl at this
        cases this with
        | nil => exact ⟨rfl, rfl, rfl⟩
      have hj1 : ¬ (j : Int) < es.length := by omega
      go_wp2_with fail
      go_returns
      refine ⟨rfl, v, ?_⟩
      have hr := HR.out
      rw [HF.out.1, HF.out.2.1, HF.out.2.2, HJ.out] at hr
      exact hr

theorem ownsRow_mono {w : World} {base base' : Nat} {e : TypeId} {z : Nat} {v : Value} {n : Nat} {xs : List Value} (h : w.ownsRow base e z v n xs) (hb : base' ≤ base) : w.ownsRow base' e z v n xs := by
  refine ⟨h.1, ?_⟩
  rcases h.2 with h0 | ⟨g, cap, cur, hv, hg, r⟩
  · exact .inl h0
  · exact .inr ⟨g, cap, cur, hv, by omega, r⟩

theorem caught_script (S0 B0 F0 T0 rb b off : Nat) (cap : Nat) (es : List Ky) (ts l l' kept kept' : List Int) (k k' : Nat) (w : World)
    (hv : Vars4 w S0 B0 F0 T0 rb (some ⟨b, off, none⟩) es.length cap) (hbl : b < rb) (hbx : b ∉ [F0, T0]) (he : KysAt w b off es)
    (hc : Chain es l k kept ts l' k' kept') (hr : Round w F0 T0 rb ts l k kept 0 (.slice none 0 0) w) (hn : es.length ≤ 2147483647) :
    Calls Tryd.prog 21 #[.func (.func 22) #[] #[.pointer (some ⟨S0, 0, none⟩), .pointer (some ⟨B0, 0, none⟩), .pointer (some ⟨F0, 0, none⟩), .pointer (some ⟨T0, 0, none⟩)]] w fun e w' => e = .returned (.bool true) ∧ ∃ v, Round w F0 T0 rb ts l' k' kept' ts.length v w' := by
  have eg : ∀ args w, (callFunc 22 args).run Tryd.prog w = .ok (.enter 22 args) w := fun _ _ => by kernel_rfl
  have hb0 : Below w.heap.size w (w.alloc (.cells #[.bool false] 4)) := (Below.refl _ _).alloc (Nat.le_refl _) _
  obtain ⟨cF, fF, cT, fT, hown, hk, hB, iF⟩ := hr
  have hsz : (w.alloc (.cells #[.bool false] 4)).heap.size = w.heap.size + 1 := by simp
  have hrb := hB.sz
  have h3 := hv.lF
  have h4 := hv.lT
  have hnX : w.heap.size ∉ [F0, T0] := by
    simp only [List.mem_cons, List.not_mem_nil, or_false, not_or]
    omega
  have hnr : w.heap.size ≠ rb := by omega
  have hni : ¬ I32 (w.alloc (.cells #[.bool false] 4)) w.heap.size := not_i32 (heap_alloc_new w _) (by decide)
  have hi : ∀ q, q < w.heap.size → ¬ I32 w q → ¬ I32 (w.alloc (.cells #[.bool false] 4)) q := fun q hq h h' => h (h'.of (hb0.block q hq).symm)
  have hv1 : Vars4 (w.alloc (.cells #[.bool false] 4)) S0 B0 F0 T0 rb (some ⟨b, off, none⟩) es.length cap :=
    ⟨(hb0.cell (p := ⟨S0, 0, none⟩) hv.lS).trans hv.cS, (hb0.cell (p := ⟨B0, 0, none⟩) hv.lB).trans hv.cB, by have := hv.lS; omega, by have := hv.lB; omega, by omega, by omega, hv.nS, hv.nB, hv.nF, hv.sb, hv.bb, hv.tb, hv.fb, hi B0 hv.lB hv.iB⟩
  have hr1 : Round (w.alloc (.cells #[.bool false] 4)) F0 T0 rb ts l k kept 0 (.slice none 0 0) (w.alloc (.cells #[.bool false] 4)) :=
    ⟨(hb0.cell (p := ⟨F0, 0, none⟩) hv.lF).trans cF, (hb0.frozen (p := ⟨F0, 0, none⟩) hv.lF).trans fF, (hb0.cell (p := ⟨T0, 0, none⟩) hv.lT).trans cT, (hb0.frozen (p := ⟨T0, 0, none⟩) hv.lT).trans fT, World.ownsRow_nil _ _ _ _, Kept.refl _ _ _, hB.below hb0, hi F0 hv.lF iF⟩
  have hcl := script_some S0 B0 F0 T0 rb b off cap es ts l l' kept kept' k k' _ hv1 hbl hbx (he.of (hb0.block b (by omega))) hc hr1 hn
  refine (caught_ret 22 _ w (fun w1 => ∃ v, Round (w.alloc (.cells #[.bool false] 4)) F0 T0 rb ts l' k' kept' ts.length v w1) eg ?_).mono ?_
  · refine hcl.mono ?_
    rintro e w1 ⟨rfl, v, hR⟩
    have hk1 := hR.2.2.2.2.2.1
    exact ⟨rfl, ⟨v, hR⟩, (hk1.cell 0 (by omega) hnX hnr (.inr hni)).trans (by simp), (hk1.frozen 0 (by omega) hnX hnr (.inr hni)).trans (by simp)⟩
  · rintro e w1 ⟨rfl, w2, ⟨v, hR⟩, rfl⟩
    obtain ⟨cF1, fF1, cT1, fT1, hown1, hk1, hB1, iF1⟩ := hR
    have hni2 : ¬ I32 w2 w.heap.size := fun h' => hni (h'.of (hk1.rest w.heap.size (by omega) hnX hnr (.inr hni)).symm)
    simp only [List.mem_cons, List.not_mem_nil, or_false, not_or] at hnX
    refine ⟨rfl, v, ?_, ?_, ?_, ?_, ?_, ?_, ?_, fun h' => iF1 (i32_setCell h')⟩
    · rw [World.cell?_setCell_other _ _ _ _ (by intro h; have := congrArg Addr.block h; simp at this; exact hnX.1 this)]; exact cF1
    · rw [World.frozen?_setCell]; exact fF1
    · rw [World.cell?_setCell_other _ _ _ _ (by intro h; have := congrArg Addr.block h; simp at this; exact hnX.2 this)]; exact cT1
    · rw [World.frozen?_setCell]; exact fT1
    · exact ownsRow_mono (ownsRow_setCell_below (a := ⟨w.heap.size, 0, none⟩) hown1 (by show w.heap.size < _; omega) _) (by omega)
    · have hk2 : Kept rb [F0, T0] w w2 := (Kept.of hb0).trans hk1
      exact ⟨hk2.os, hk2.tape, hk2.output, by simpa [World.setCell] using hk2.size, fun k hk hx h1 h2 => (Below.heap_setCell _ _ _ _ (by show k ≠ w.heap.size; omega)).trans (hk2.rest k hk hx h1 h2)⟩
    · exact hB1.setVar _ _ hnr (.inr hni2)
end Go.Proofs.YtoimdbmjpkmkfaaDoor
