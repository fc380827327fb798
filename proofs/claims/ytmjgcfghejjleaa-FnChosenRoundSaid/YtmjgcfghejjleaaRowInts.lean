/- A slice of integers that came in, as the walks are told of it. -/
import Derived.Test.YtmjgcfghejjleaaTexts
import Derived.ChangeSlices
import Derived.OpenShut
namespace Go.Proofs.Ytmjgcfghejjleaa
open Go.RowKit Go.ChangeShapes Go.WideShapes
set_option linter.unusedVariables false
set_option linter.unusedSimpArgs false

/-- What the walks are told of a slice of integers: nothing in it, or its cells up to its length. -/
def IsInts (k : IntKind) (w : World) (a : Option Addr) (zs : List Int) : Prop :=
  zs = [] ∨ ∃ b off, a = some ⟨b, off, none⟩ ∧ b < w.heap.size ∧ ∀ i, i < zs.length → w.cell? ⟨b, off + i, none⟩ = some (.int k (nth zs i))

theorem IsInts.below {k : IntKind} {w w' : World} {a : Option Addr} {zs : List Int} (h : IsInts k w a zs) (hb : Below w.heap.size w w') : IsInts k w' a zs := by
  rcases h with h | ⟨b, off, ha, hl, hc⟩
  · exact .inl h
  · exact .inr ⟨b, off, ha, Nat.lt_of_lt_of_le hl hb.size, fun i hi => (hb.cell (p := ⟨b, off + i, none⟩) hl).trans (hc i hi)⟩

theorem intsRow_of_trod {H : Type} {enc : TypeId × Value → H} {P : Program} {W : World} {t e : TypeId} {k : IntKind} {a : Option Addr} {len cap : Nat} {d : DataW H} {p : List MemPlace}
    (ht : P.underlying t = some (.slice e)) (he : P.underlying e = some (.int k)) (hc : P.cellsOf e = 1) (h : DataW.Trod enc P W 0 (fun _ => true) true t (.slice a len cap) d p) :
    ∃ z : List Int, z.length = len ∧ IsInts k W a z ∧ ∀ n ∈ z, (Lit.int k n).wf = true := by
  obtain ⟨fuel, hf⟩ := h
  rcases open_ints ht he hc hf with ⟨e1, _⟩ | ⟨a', len', cap', zs, e1, hb, hl, hm, hlen, _, hcell, hwf⟩
  · have e2 : (Value.slice a len cap) = .slice none 0 0 := by simpa [Value.cells] using e1
    cases e2
    exact ⟨[], rfl, .inl rfl, fun n hn => by cases hn⟩
  · have e2 : (Value.slice a len cap) = .slice (some a') len' cap' := by simpa [Value.cells] using e1
    cases e2
    have hlen' : zs.length = cap := by simpa using hlen
    refine ⟨zs.take len, by simp; omega, ?_, fun n hn => hwf n (List.mem_of_mem_take hn)⟩
    by_cases h0 : len = 0
    · exact .inl (by simp [h0])
    obtain ⟨b, off, spot⟩ := a'
    have hspot : spot = none := by simpa [Addr.add] using World.cell?_spot (hcell 0 (by omega))
    subst hspot
    refine .inr ⟨b, off, rfl, lt_of_cell (by rw [← Go.WideShapes.add_plain]; exact hcell 0 (by omega)), fun i hi => ?_⟩
    have hi' : i < len := by simp at hi; omega
    rw [← Go.WideShapes.add_plain, hcell i (by omega)]
    simp [nth, hi']
end Go.Proofs.Ytmjgcfghejjleaa
