/- laws.after9: the line after some steps on a line. -/
import Derived.Test.YtoimdbmjpkmkfaaDoorRbKeyed
namespace Go.Proofs.YtoimdbmjpkmkfaaDoor
open Go.RowKit
set_option linter.unusedVariables false
set_option linter.unusedSimpArgs false

def flat (es : List Ky) : List Value := es.flatMap Ky.cells
theorem flat_length (es : List Ky) : (flat es).length = es.length * 5 := by
  induction es with
  | nil => rfl
  | cons e es ih => simp [flat, Ky.cells] at ih ⊢; omega
theorem flat_one (es : List Ky) : ∀ u ∈ flat es, u.oneCell' = true := by
  intro u hu
  obtain ⟨e, _, he⟩ := List.mem_flatMap.1 hu
  simp [Ky.cells] at he
  rcases he with rfl | rfl | rfl | rfl | rfl <;> rfl
theorem flat_get : ∀ (es : List Ky) (i r : Nat) (e : Ky), es[i]? = some e → r < 5 → (flat es)[i * 5 + r]? = e.cells[r]?
  | [], i, r, e, h, _ => by simp at h
  | x :: es, 0, r, e, h, hr => by
    simp at h; subst h
    show (x.cells ++ flat es)[0 * 5 + r]? = _
    rw [Nat.zero_mul, Nat.zero_add, List.getElem?_append_left (by simpa [Ky.cells] using hr)]
  | x :: es, i + 1, r, e, h, hr => by
    show (x.cells ++ flat es)[(i + 1) * 5 + r]? = _
    rw [List.getElem?_append_right (by simp [Ky.cells]; omega), ← flat_get es i r e (by simpa using h) hr]
    congr 1
    simp [Ky.cells]; omega

theorem add_plain (B k j : Nat) : (⟨B, k, none⟩ : Addr).add j = ⟨B, k + j, none⟩ := by
  unfold Addr.add
  by_cases e : j = 0
  · rw [if_pos e, e]; rfl
  · rw [if_neg e]

theorem kys_flat {w : World} {b off : Nat} {es : List Ky} (h : KysAt w b off es) : ∀ (j : Nat) (u : Value), (flat es)[j]? = some u → w.cell? ((⟨b, off, none⟩ : Addr).add j) = some u := fun j u hu => by
  have hj := (List.getElem?_eq_some_iff.1 hu).1
  rw [flat_length] at hj
  have hi : j / 5 < es.length := by omega
  have hr : j % 5 < 5 := Nat.mod_lt _ (by omega)
  have he := List.getElem?_eq_getElem hi
  generalize es[j / 5] = e at he
  have h1 := flat_get es (j / 5) (j % 5) e he hr
  rw [show j / 5 * 5 + j % 5 = j by omega, hu] at h1
  obtain ⟨c0, c1, c2, c3, c4⟩ := h (j / 5) e he
  rw [add_plain]
  have hrr : j % 5 = 0 ∨ j % 5 = 1 ∨ j % 5 = 2 ∨ j % 5 = 3 ∨ j % 5 = 4 := by omega
  rcases hrr with hr | hr | hr | hr | hr <;> rw [hr] at h1 <;> simp [Ky.cells] at h1 <;> subst h1
  · rw [show off + j = off + j / 5 * 5 by omega]; exact c0
  · rw [show off + j = off + j / 5 * 5 + 1 by omega]; exact c1
  · rw [show off + j = off + j / 5 * 5 + 2 by omega]; exact c2
  · rw [show off + j = off + j / 5 * 5 + 3 by omega]; exact c3
  · rw [show off + j = off + j / 5 * 5 + 4 by omega]; exact c4

theorem kys_of_flat {w : World} {b off : Nat} {es : List Ky} (h : ∀ (j : Nat) (u : Value), (flat es)[j]? = some u → w.cell? ⟨b, off + j, none⟩ = some u) : KysAt w b off es := fun i e he => by
  have g := fun r hr => flat_get es i r e he hr
  refine ⟨?_, ?_, ?_, ?_, ?_⟩
  · exact h (i * 5) _ (by simpa [Ky.cells] using g 0 (by omega))
  · rw [Nat.add_assoc]; exact h (i * 5 + 1) _ (by simpa [Ky.cells] using g 1 (by omega))
  · rw [Nat.add_assoc]; exact h (i * 5 + 2) _ (by simpa [Ky.cells] using g 2 (by omega))
  · rw [Nat.add_assoc]; exact h (i * 5 + 3) _ (by simpa [Ky.cells] using g 3 (by omega))
  · rw [Nat.add_assoc]; exact h (i * 5 + 4) _ (by simpa [Ky.cells] using g 4 (by omega))

/-- A row of steps that the call owns is a script in memory. -/
theorem kys_owned {w : World} {base g n cap : Nat} {es : List Ky} (h : w.ownsRow base 30 5 (.slice (some ⟨g, 0, none⟩) n cap) n (flat es)) : KysAt w g 0 es := by
  refine kys_of_flat fun j u hu => ?_
  rcases h.2 with ⟨h0, _⟩ | ⟨g', c, cur, hv, _, hh, _, _, _, htk⟩
  · cases h0
  · cases hv
    rw [World.cell?, hh]
    have hj := (List.getElem?_eq_some_iff.1 hu).1
    have := congrArg (·[j]?) htk
    rw [← htk] at hj
    simp at hj
    simp only [hu] at this
    rw [List.getElem?_take_of_lt (by omega)] at this
    simpa using this

def AfterPost (l' : List Int) (k' : Nat) (w : World) (e : Ending) (w' : World) : Prop :=
  e = .returned (.tuple #[.agg #[.string (runesBytes l'), .int .i64 (k' : Nat)], .bool true]) ∧ Below w.heap.size w w'

end Go.Proofs.YtoimdbmjpkmkfaaDoor
