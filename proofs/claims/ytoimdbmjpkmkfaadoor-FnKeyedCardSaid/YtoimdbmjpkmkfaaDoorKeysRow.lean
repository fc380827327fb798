/- A slice of steps that came in, as the walks are told of it; laws.zzFits12, zzFits13; Keyed at it. -/
import Derived.Test.YtoimdbmjpkmkfaaDoorKeyNil
import Derived.Test.YtoimdbmjpkmkfaaDoorPutsFail
import Derived.Deep.Slices
import Derived.Deep.Fields
import Derived.ChangeSame
import Derived.OpenShut
namespace Go.Proofs.YtoimdbmjpkmkfaaDoor
open Go.RowKit Go.ChangeShapes Go.WideShapes Go.Deep
open Go.ChangeMaps (open_string shut_string)
set_option linter.unusedVariables false
set_option linter.unusedSimpArgs false

section
variable {H : Type} {enc : TypeId × Value → H} {P : Program} {w : World} {base : Nat} {spare : Nat → Bool} {held : Bool}
theorem open_slice_fields {t e : TypeId} {fs : Array Field} {fuel : Nat} {cs : List Value} {x : DataW H × List MemPlace} (ht : P.underlying t = some (.slice e)) (he : P.underlying e = some (.struct fs))
    (hone : oneCellFields P fs = true) (hC : P.cellsOf e = fs.size) (h : DataW.trod enc P w base spare held fuel t cs = some x) :
    (cs = [.slice none 0 0] ∧ x = (.nil, [])) ∨
    ∃ (a : Addr) (len cap m : Nat) (D : Nat → DataW H) (Pl : Nat → List MemPlace), cs = [.slice (some a) len cap] ∧ base ≤ a.block ∧ len ≤ cap ∧ cap ≤ maxLen ∧ m = (if spare a.block then cap else len) ∧
      x = (.slice ((List.range len).map D) ((List.range (m - len)).map fun j => D (len + j)), MemPlace.row a (m * fs.size) ++ (List.range m).flatMap Pl) ∧
      ∀ i, i < m → ∃ (ys : List (DataW H × List MemPlace)) (n : Nat), D i = .agg (ys.map (·.1)) ∧ Pl i = ys.flatMap (·.2) ∧ ys.length = fs.size ∧
        ∀ (j : Nat) (f : Field), fs[j]? = some f → ∃ (v : Value) (y : DataW H × List MemPlace), w.cell? (a.add (i * fs.size + j)) = some v ∧ ys[j]? = some y ∧ DataW.trod enc P w base spare held n f.type [v] = some y := by
  rcases open_slice ht h with h0 | ⟨a, len, cap, m, n, D, Pl, hcs, hb, hl, hm, hmm, hx, hi⟩
  · exact .inl h0
  · refine .inr ⟨a, len, cap, m, D, Pl, hcs, hb, hl, hm, hmm, by rw [hC] at hx; exact hx, fun i him => ?_⟩
    obtain ⟨cs', hc, ht'⟩ := hi i him
    rw [hC] at hc
    obtain ⟨ys, n', hn', hy, hlen, hyl, hf⟩ := DataW.trod_struct he ht'
    obtain ⟨_, hcl, hat⟩ := World.cells?_some hc
    simp only [Prod.mk.injEq] at hy
    refine ⟨ys, n', hy.1, hy.2, hyl, fun j f hj => ?_⟩
    obtain ⟨ho, hk⟩ := hone_of hone j f hj
    have hjl : j < fs.size := (Array.getElem?_eq_some_iff.1 hj).1
    have hcell := hat j hjl
    have hv : cs'[j]? = some (cs'[j]'(by omega)) := List.getElem?_eq_getElem (by omega)
    have h1 := hf j f hj
    rw [ho, hk] at h1
    have hone' : (cs'.drop j).take 1 = [cs'[j]'(by omega)] := by
      rw [List.drop_eq_getElem_cons (by omega)]
      rfl
    rw [hone'] at h1
    have hys : ys[j]? = some (ys[j]'(by omega)) := List.getElem?_eq_getElem (by omega)
    refine ⟨_, _, ?_, hys, h1.trans hys⟩
    rw [← Go.Deep.add_add, hcell, hv]
end

/-- A slice of steps: none, or a row of five cells each. -/
def IsKys (w : World) (a : Option Addr) (es : List Ky) : Prop := es = [] ∨ ∃ b off, a = some ⟨b, off, none⟩ ∧ b < w.heap.size ∧ KysAt w b off es
theorem IsKys.of {w w' : World} {a : Option Addr} {es : List Ky} (h : IsKys w a es) (hb : Below w.heap.size w w') : IsKys w' a es := by
  rcases h with h | ⟨b, off, ha, hl, hc⟩
  · exact .inl h
  · exact .inr ⟨b, off, ha, Nat.lt_of_lt_of_le hl hb.size, hc.of (hb.block b hl)⟩

theorem add_flat5 (b off j : Nat) : (⟨b, off, none⟩ : Addr).add j = ⟨b, off + j, none⟩ := by
  unfold Addr.add
  by_cases e : j = 0
  · rw [if_pos e, e]; rfl
  · rw [if_neg e]

theorem keysRow_of_trod {H : Type} {enc : TypeId × Value → H} {P : Program} {W : World} {t e t0 t1 t2 t3 t4 : TypeId} {fs : Array Field} {a : Option Addr} {len cap : Nat} {d : DataW H} {p : List MemPlace}
    (ht : P.underlying t = some (.slice e)) (he : P.underlying e = some (.struct fs)) (hone : oneCellFields P fs = true) (hC : P.cellsOf e = fs.size) (hf : fs.toList.map Field.type = [t0, t1, t2, t3, t4])
    (h0 : P.underlying t0 = some (.int .i64)) (h1 : P.underlying t1 = some .string) (h2 : P.underlying t2 = some (.int .i64)) (h3 : P.underlying t3 = some .bool) (h4 : P.underlying t4 = some .bool)
    (h : DataW.Trod enc P W 0 (fun _ => true) true t (.slice a len cap) d p) : ∃ z : List Ky, z.length = len ∧ IsKys W a z ∧ len ≤ maxLen := by
  obtain ⟨fuel, hfu⟩ := h
  have hsz : fs.size = 5 := by have := congrArg List.length hf; simpa using this
  rcases open_slice_fields ht he hone hC hfu with ⟨e1, _⟩ | ⟨a', len', cap', m, D, Pl, e1, hb, hl, hm, hmm, _, hi⟩
  · have e2 : (Value.slice a len cap) = .slice none 0 0 := by simpa [Value.cells] using e1
    cases e2
    exact ⟨[], rfl, .inl rfl, Nat.zero_le _⟩
  · have e2 : (Value.slice a len cap) = .slice (some a') len' cap' := by simpa [Value.cells] using e1
    cases e2
    have hml : len ≤ m := by rw [hmm]; split <;> omega
    have hfs : ∃ f0 f1 f2 f3 f4, fs[0]? = some f0 ∧ fs[1]? = some f1 ∧ fs[2]? = some f2 ∧ fs[3]? = some f3 ∧ fs[4]? = some f4 ∧ f0.type = t0 ∧ f1.type = t1 ∧ f2.type = t2 ∧ f3.type = t3 ∧ f4.type = t4 := by
      obtain ⟨l⟩ := fs
      match l, hf with
      | [f0, f1, f2, f3, f4], hf => simp at hf; exact ⟨f0, f1, f2, f3, f4, rfl, rfl, rfl, rfl, rfl, hf.1, hf.2.1, hf.2.2.1, hf.2.2.2.1, hf.2.2.2.2⟩
    obtain ⟨f0, f1, f2, f3, f4, hf0, hf1, hf2, hf3, hf4, rfl, rfl, rfl, rfl, rfl⟩ := hfs
    have key : ∀ i, i < len → ∃ x : Ky, W.cell? (a'.add (i * 5)) = some (.int .i64 x.op) ∧ W.cell? (a'.add (i * 5 + 1)) = some (.string x.s) ∧ W.cell? (a'.add (i * 5 + 2)) = some (.int .i64 x.n) ∧ W.cell? (a'.add (i * 5 + 3)) = some (.bool x.f) ∧ W.cell? (a'.add (i * 5 + 4)) = some (.bool x.b) := fun i hil => by
      obtain ⟨ys, n, _, _, _, hcell⟩ := hi i (by omega)
      obtain ⟨v0, y0, c0, _, r0⟩ := hcell 0 f0 hf0
      obtain ⟨v1, y1, c1, _, r1⟩ := hcell 1 f1 hf1
      obtain ⟨v2, y2, c2, _, r2⟩ := hcell 2 f2 hf2
      obtain ⟨v3, y3, c3, _, r3⟩ := hcell 3 f3 hf3
      obtain ⟨v4, y4, c4, _, r4⟩ := hcell 4 f4 hf4
      obtain ⟨s0, e0, _⟩ := DataW.trod_int h0 r0
      obtain ⟨s1, e1, _⟩ := DataW.trod_string h1 r1
      obtain ⟨s2, e2, _⟩ := DataW.trod_int h2 r2
      obtain ⟨s3, e3, _⟩ := DataW.trod_bool h3 r3
      obtain ⟨s4, e4, _⟩ := DataW.trod_bool h4 r4
      cases e0; cases e1; cases e2; cases e3; cases e4
      rw [hsz] at c0 c1 c2 c3 c4
      exact ⟨⟨s0, s1, s2, s3, s4⟩, c0, c1, c2, c3, c4⟩
    let z : List Ky := (List.range len).map fun i => if h : i < len then (key i h).choose else ⟨0, ⟨#[]⟩, 0, false, false⟩
    have hzl : z.length = len := by simp [z]
    refine ⟨z, hzl, ?_, by omega⟩
    by_cases hl0 : len = 0
    · exact .inl (List.length_eq_zero_iff.1 (by omega))
    obtain ⟨b, off, spot⟩ := a'
    have hspot : spot = none := by
      obtain ⟨x, c0, _⟩ := key 0 (by omega)
      simpa [Addr.add] using World.cell?_spot c0
    subst hspot
    have lt_of : ∀ {q : Addr} {u : Value}, W.cell? q = some u → q.block < W.heap.size := fun {q u} h => by
      by_cases hq : q.block < W.heap.size
      · exact hq
      · rw [World.cell?, Array.getElem?_eq_none (by omega)] at h
        cases h
    refine .inr ⟨b, off, rfl, ?_, fun i x hx => ?_⟩
    · obtain ⟨x, c0, _⟩ := key 0 (by omega)
      rw [add_flat5] at c0
      exact lt_of c0
    · have hil : i < len := by have := (List.getElem?_eq_some_iff.1 hx).1; omega
      have hxx : x = (key i hil).choose := by
        have e := (List.getElem?_eq_some_iff.1 hx).2
        rw [← e]
        simp [z, hil]
      obtain ⟨c0, c1, c2, c3, c4⟩ := (key i hil).choose_spec
      rw [← hxx] at c0 c1 c2 c3 c4
      rw [add_flat5] at c0 c1 c2 c3 c4
      rw [← Nat.add_assoc] at c1 c2 c3 c4
      exact ⟨c0, c1, c2, c3, c4⟩

theorem keyed_at (a : Option Addr) (cap : Nat) (es : List Ky) (ts l' kept' : List Int) (k' : Nat) (w : World) (he : IsKys w a es) (hc : Chain es [] 0 [] ts l' k' kept') (hn : es.length ≤ 2147483647) (hl : l'.length ≤ 100000) :
    Calls Tryd.prog 10 #[.slice a es.length cap] w (KeyedPost l' k' ts w) := by
  rcases he with rfl | ⟨b, off, rfl, hb, hk⟩
  · cases hc
    exact keyed_nil a cap w
  · exact keyed_any b off cap es ts l' kept' k' w hb hk hc hn hl

def Fits13Post (x : Ky) (w : World) (e : Ending) (w' : World) : Prop := ∃ b, e = .returned (.bool b) ∧ (b = true → x.s.size ≤ 2147483647) ∧ Below w.heap.size w w'
theorem fits13_any (x : Ky) (w : World) : Calls Tryd.prog 12 #[x.val] w (Fits13Post x w) := by
  obtain ⟨op, s, n, f, b⟩ := x
  unfold Ky.val
  dsimp only
  by_cases h1 : (2147483647 : Int) < s.size
  · go_enter Tryd.func12, Tryd.ntmps12
    go_wp2_with fail
    go_returns
    exact ⟨false, rfl, (fun h => by cases h), (Below.refl _ _).alloc (Nat.le_refl _) _⟩
  · go_enter Tryd.func12, Tryd.ntmps12
    go_wp2_with fail
    go_returns
    exact ⟨true, rfl, fun _ => by show s.size ≤ _; omega, (Below.refl _ _).alloc (Nat.le_refl _) _⟩

def Fits12Post (es : List Ky) (w : World) (e : Ending) (w' : World) : Prop := ∃ b, e = .returned (.bool b) ∧ (b = true → es.length ≤ 2147483647 ∧ ∀ x ∈ es, x.s.size ≤ 2147483647) ∧ Below w.heap.size w w'

theorem fits12_any (a : Option Addr) (cap : Nat) (es : List Ky) (w : World) (h : IsKys w a es) :
    Calls Tryd.prog 4 #[.slice a es.length cap] w (Fits12Post es w) := by
  obtain ⟨n, hn⟩ : ∃ n, n = es.length := ⟨_, rfl⟩
  have Hn := Go.Lib.hid hn
  have HH := Go.Lib.hid h
  rw [← hn]
  clear hn h
  by_cases hL : (2147483647 : Int) < n
  · go_enter Tryd.func4, Tryd.ntmps4
    go_wp2_with fail
    go_returns
    exact ⟨false, rfl, (fun h => by cases h), Below.refl _ _⟩
  have hl : n ≤ 2147483647 := by omega
  go_enter Tryd.func4, Tryd.ntmps4
  go_wp2_with fail
  go_loopw [10] (fun i wr => ∃ k : Nat, k ≤ n ∧ i = .int .i64 k ∧ Below w.heap.size w wr ∧ Hid (∀ (j : Nat) (x : Ky), j < k → es[j]? = some x → x.s.size ≤ 2147483647)) (fun i _ => n - (intOf i).toNat)
  case atStart => exact ⟨0, Nat.zero_le _, rfl, Below.refl _ _, fun j x hj => by omega⟩
  case round =>
    obtain ⟨k, hk, rfl, hb, HG⟩ := hrel
    by_cases hlt : k < n
    · rcases HH.out with e | ⟨b, off, rfl, hbl, hc⟩
      · have := Hn.out; rw [e] at this; simp at this; omega
      have hkl : k < es.length := by rw [← Hn.out]; exact hlt
      have hje : es[k]? = some es[k] := List.getElem?_eq_getElem hkl
      generalize es[k] = x at hje
      obtain ⟨c0, c1, c2, c3, c4⟩ := hc k x hje
      have HJE := Go.Lib.hid hje
      obtain ⟨op, s, m, f, bk⟩ := x
      dsimp only at c0 c1 c2 c3 c4
      have d0 := (hb.cell (p := ⟨b, off + k * 5, none⟩) hbl).trans c0
      have d1 := (hb.cell (p := ⟨b, off + k * 5 + 1, none⟩) hbl).trans c1
      have d2 := (hb.cell (p := ⟨b, off + k * 5 + 2, none⟩) hbl).trans c2
      have d3 := (hb.cell (p := ⟨b, off + k * 5 + 3, none⟩) hbl).trans c3
      have d4 := (hb.cell (p := ⟨b, off + k * 5 + 4, none⟩) hbl).trans c4
      have hz := hb.size
      have B1 : Hid (Below w.heap.size w (wr.alloc (.cells #[.int .i64 op, .string s, .int .i64 m, .bool f, .bool bk] 30))) := hb.alloc hz _
      clear hc c0 c1 c2 c3 c4 hb hje hkl
      go_wp2_with fail
      refine (fits13_any ⟨op, s, m, f, bk⟩ _).mono ?_
      rintro e w1 ⟨b1, rfl, hfit, hb1⟩
      have B2 : Hid (Below w.heap.size w w1) := B1.out.trans (hb1.mono (by simp; omega))
      have HF := Go.Lib.hid hfit
      clear hfit hb1
      cases b1
      · go_wp2_with fail
        go_returns
        exact ⟨false, rfl, (fun h => by cases h), B2.out⟩
      · have HF2 := HF.out rfl
        have HF3 := Go.Lib.hid HF2
        clear HF HF2
        go_wp2_with fail
        go_roundw
        case rel => exact ⟨k + 1, by omega, by go_num, B2.out, fun j x hj hx => by
          by_cases e : j < k
          · exact HG.out j x e hx
          · obtain rfl : j = k := by omega
            rw [HJE.out] at hx
            cases hx
            exact HF3.out⟩
        case measure => simp [intOf]; omega
    · have HV : Hid (∀ x ∈ es, x.s.size ≤ 2147483647) := fun x hx => by
        obtain ⟨j, hj, rfl⟩ := List.getElem_of_mem hx
        exact HG.out j _ (by have := Hn.out; omega) (List.getElem?_eq_getElem hj)
      have HB := Go.Lib.hid hb
      clear hb
      go_wp2_with fail
      go_returns
      exact ⟨true, rfl, fun _ => ⟨by rw [← Hn.out]; exact hl, HV.out⟩, HB.out⟩
end Go.Proofs.YtoimdbmjpkmkfaaDoor
