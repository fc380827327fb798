/- A slice of picks that came in, as the walks are told of it. -/
import Derived.Test.YtldlgipailfbnaaDoorPickPlain
import Derived.Deep.Slices
import Derived.Deep.Fields
import Derived.ChangeSame
import Derived.OpenShut
namespace Go.Proofs.YtldlgipailfbnaaDoor
open Go.RowKit Go.ChangeShapes Go.WideShapes Go.Deep
open Go.ChangeMaps (open_string shut_string)
set_option linter.unusedVariables false
set_option linter.unusedSimpArgs false

section
variable {H : Type} {enc : TypeId × Value → H} {P : Program} {w : World} {base : Nat} {spare : Nat → Bool} {held : Bool}
theorem open_slice_fields {t e : TypeId} {fs : Array Field} {fuel : Nat} {cs : List Value} {x : DataW H × List MemPlace} (ht : P.underlying t = some (.slice e)) (he : P.underlying e = some (.struct fs))
    (hone : oneCellFields P fs = true) (hC : P.cellsOf e = fs.size) (h : DataW.trod enc P w base spare held fuel t cs = some x) :
    (cs = [.slice none 0 0] ∧ x = (.nil, [])) ∨
    ∃ (a : Addr) (len cap m : Nat) (D : Nat → DataW H) (Pl : Nat → List MemPlace), cs = [.slice (some a) len cap] ∧ base ≤ a.block ∧ len ≤ cap ∧ cap ≤ maxLen ∧ m = (if spare a.block then cap else len) ∧
      x = (.slice ((List.range len).map D) ((List.range (m - len)).map fun j => D (len + j)), MemPlace.row a (m * fs.size) ++ (List.range m).flatMap Pl) ∧
      ∀ i, i < m → ∃ (ys : List (DataW H × List MemPlace)) (n : Nat), D i = .agg (ys.map (·.1)) ∧ Pl i = ys.flatMap (·.2) ∧ ys.length = fs.size ∧
        ∀ (j : Nat) (f : Field), fs[j]? = some f → ∃ (v : Value) (y : DataW H × List MemPlace), w.cell? (a.add (i * fs.size + j)) = some v ∧ ys[j]? = some y ∧ DataW.trod enc P w base spare held n f.type [v] = some y := by
  rcases open_slice ht h with h0 | ⟨a, len, cap, m, n, D, Pl, hcs, hb, hl, hm, hmm, hx, hi⟩
  · exact .inl h0
  · refine .inr ⟨a, len, cap, m, D, Pl, hcs, hb, hl, hm, hmm, by rw [hC] at hx; exact hx, fun i him => ?_⟩
    obtain ⟨cs', hc, ht'⟩ := hi i him
    rw [hC] at hc
    obtain ⟨ys, n', hn', hy, hlen, hyl, hf⟩ := DataW.trod_struct he ht'
    obtain ⟨_, hcl, hat⟩ := World.cells?_some hc
    simp only [Prod.mk.injEq] at hy
    refine ⟨ys, n', hy.1, hy.2, hyl, fun j f hj => ?_⟩
    obtain ⟨ho, hk⟩ := hone_of hone j f hj
    have hjl : j < fs.size := (Array.getElem?_eq_some_iff.1 hj).1
    have hcell := hat j hjl
    have hv : cs'[j]? = some (cs'[j]'(by omega)) := List.getElem?_eq_getElem (by omega)
    have h1 := hf j f hj
    rw [ho, hk] at h1
    have hone' : (cs'.drop j).take 1 = [cs'[j]'(by omega)] := by
      rw [List.drop_eq_getElem_cons (by omega)]
      rfl
    rw [hone'] at h1
    have hys : ys[j]? = some (ys[j]'(by omega)) := List.getElem?_eq_getElem (by omega)
    refine ⟨_, _, ?_, hys, h1.trans hys⟩
    rw [← Go.Deep.add_add, hcell, hv]
end

theorem picksRow_of_trod {H : Type} {enc : TypeId × Value → H} {P : Program} {W : World} {t e t0 t1 : TypeId} {fs : Array Field} {a : Option Addr} {len cap : Nat} {d : DataW H} {p : List MemPlace}
    (ht : P.underlying t = some (.slice e)) (he : P.underlying e = some (.struct fs)) (hone : oneCellFields P fs = true) (hC : P.cellsOf e = fs.size) (hf : fs.toList.map Field.type = [t0, t1]) (h0 : P.underlying t0 = some .string) (h1 : P.underlying t1 = some .string)
    (h : DataW.Trod enc P W 0 (fun _ => true) true t (.slice a len cap) d p) : ∃ z : List Pk, z.length = len ∧ IsPks W a z := by
  obtain ⟨fuel, hfu⟩ := h
  have hsz : fs.size = 2 := by have := congrArg List.length hf; simpa using this
  rcases open_slice_fields ht he hone hC hfu with ⟨e1, _⟩ | ⟨a', len', cap', m, D, Pl, e1, hb, hl, hm, hmm, _, hi⟩
  · have e2 : (Value.slice a len cap) = .slice none 0 0 := by simpa [Value.cells] using e1
    cases e2
    exact ⟨[], rfl, .inl rfl⟩
  · have e2 : (Value.slice a len cap) = .slice (some a') len' cap' := by simpa [Value.cells] using e1
    cases e2
    have hml : len ≤ m := by rw [hmm]; split <;> omega
    have hfs : ∃ f0 f1, fs[0]? = some f0 ∧ fs[1]? = some f1 ∧ f0.type = t0 ∧ f1.type = t1 := by
      obtain ⟨l⟩ := fs
      match l, hf with
      | [f0, f1], hf => simp at hf; exact ⟨f0, f1, rfl, rfl, hf.1, hf.2⟩
    obtain ⟨f0, f1, hf0, hf1, rfl, rfl⟩ := hfs
    have key : ∀ i, i < len → ∃ s0 s1, W.cell? (a'.add (i * 2)) = some (.string s0) ∧ W.cell? (a'.add (i * 2 + 1)) = some (.string s1) := fun i hil => by
      obtain ⟨ys, n, _, _, _, hcell⟩ := hi i (by omega)
      obtain ⟨v0, y0, c0, _, r0⟩ := hcell 0 f0 hf0
      obtain ⟨v1, y1, c1, _, r1⟩ := hcell 1 f1 hf1
      obtain ⟨s0, e0, _⟩ := DataW.trod_string h0 r0
      obtain ⟨s1, e1, _⟩ := DataW.trod_string h1 r1
      cases e0; cases e1
      rw [hsz] at c0 c1
      exact ⟨s0, s1, c0, c1⟩
    let z : List Pk := (List.range len).map fun i => if h : i < len then ⟨(key i h).choose, (key i h).choose_spec.choose⟩ else ⟨⟨#[]⟩, ⟨#[]⟩⟩
    have hzl : z.length = len := by simp [z]
    refine ⟨z, hzl, ?_⟩
    by_cases hl0 : len = 0
    · exact .inl (List.length_eq_zero_iff.1 (by omega))
    obtain ⟨b, off, spot⟩ := a'
    have hspot : spot = none := by
      obtain ⟨s0, s1, c0, _⟩ := key 0 (by omega)
      simpa [Addr.add] using World.cell?_spot c0
    subst hspot
    have hat : ∀ i (h : i < len), pkAt z i = ⟨(key i h).choose, (key i h).choose_spec.choose⟩ := fun i h => by simp [pkAt, z, h]
    refine .inr ⟨b, off, rfl, ?_, fun i hi' => ?_⟩
    · obtain ⟨s0, s1, c0, _⟩ := key 0 (by omega)
      rw [add_flat] at c0
      exact lt_of_cell c0
    · have hil : i < len := by omega
      obtain ⟨c0, c1⟩ := (key i hil).choose_spec.choose_spec
      rw [hat i hil]
      exact ⟨(congrArg W.cell? (add_flat b off (i * 2)).symm).trans c0, (congrArg W.cell? ((congrArg (fun x => (⟨b, x, none⟩ : Addr)) (Nat.add_assoc off (i * 2) 1)).trans (add_flat b off (i * 2 + 1)).symm)).trans c1⟩
end Go.Proofs.YtldlgipailfbnaaDoor
