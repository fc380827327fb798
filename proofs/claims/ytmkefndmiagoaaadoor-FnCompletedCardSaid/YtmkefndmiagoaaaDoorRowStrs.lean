/- A slice of strings that came in, as the walks are told of it. -/
import Derived.Test.YtmkefndmiagoaaaDoorWhole
import Derived.SliceStrings
import Derived.OpenShut
namespace Go.Proofs.YtmkefndmiagoaaaDoor
open Go.RowKit Go.ChangeShapes Go.WideShapes
set_option linter.unusedVariables false
set_option linter.unusedSimpArgs false

theorem strsRow_of_trod {H : Type} {enc : TypeId × Value → H} {P : Program} {W : World} {t e : TypeId} {a : Option Addr} {len cap : Nat} {d : DataW H} {p : List MemPlace}
    (ht : P.underlying t = some (.slice e)) (he : P.underlying e = some .string) (hc : P.cellsOf e = 1) (h : DataW.Trod enc P W 0 (fun _ => true) true t (.slice a len cap) d p) :
    ∃ z : List ByteArray, z.length = len ∧ IsStrs W a z := by
  obtain ⟨fuel, hf⟩ := h
  rcases open_strings ht he hc hf with ⟨e1, _⟩ | ⟨a', len', cap', ss, e1, hb, hl, hm, hlen, _, hcell, _⟩
  · have e2 : (Value.slice a len cap) = .slice none 0 0 := by simpa [Value.cells] using e1
    cases e2
    exact ⟨[], rfl, .inl rfl⟩
  · have e2 : (Value.slice a len cap) = .slice (some a') len' cap' := by simpa [Value.cells] using e1
    cases e2
    have hlen' : ss.length = cap := by simpa using hlen
    refine ⟨ss.take len, by simp; omega, ?_⟩
    by_cases h0 : len = 0
    · exact .inl (by simp [h0])
    obtain ⟨b, off, spot⟩ := a'
    have hspot : spot = none := by simpa [Addr.add] using World.cell?_spot (hcell 0 (by omega))
    subst hspot
    refine .inr ⟨b, off, rfl, lt_of_cell (by rw [← Go.WideShapes.add_plain]; exact hcell 0 (by omega)), fun i hi => ?_⟩
    have hi' : i < len := by simp at hi; omega
    rw [← Go.WideShapes.add_plain, hcell i (by omega)]
    simp [txt, hi']
end Go.Proofs.YtmkefndmiagoaaaDoor
