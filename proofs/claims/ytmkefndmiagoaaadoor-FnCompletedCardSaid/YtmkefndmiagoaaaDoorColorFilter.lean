/- The contract of readline's Runes.ColorFilter. -/
import Derived.Test.YtmkefndmiagoaaaDoorIndexOff
import Derived.Deep.RegionWith
import Derived.WalkSmall
namespace Go.Proofs.YtmkefndmiagoaaaDoor
open Go.RowKit
set_option linter.unusedVariables false
set_option linter.unusedSimpArgs false

/-- A list without sequences of colours; none where an escape is the last sign that is looked at. -/
def colf : Nat → List Int → Option (List Int)
  | 0, _ => some []
  | _ + 1, [] => some []
  | n + 1, z :: t =>
    if z = 27 then
      match t with
      | [] => none
      | y :: u => if y = 91 then (if firstFrom u 109 0 = -1 then colf n t else colf n (u.drop ((firstFrom u 109 0).toNat + 1))) else (colf n t).map (z :: ·)
    else (colf n t).map (z :: ·)

theorem colf_fuel : ∀ (a b : Nat) (l : List Int), l.length ≤ a → l.length ≤ b → colf a l = colf b l
  | 0, b, l, ha, _ => by
    obtain rfl : l = [] := List.eq_nil_of_length_eq_zero (by omega)
    cases b <;> rfl
  | a + 1, b, [], _, _ => by cases b <;> rfl
  | a + 1, 0, z :: t, _, hb => by simp at hb
  | a + 1, b + 1, z :: t, ha, hb => by
    simp at ha hb
    have ih := fun l h1 h2 => colf_fuel a b l h1 h2
    unfold colf
    by_cases hz : z = 27
    · rw [if_pos hz, if_pos hz]
      match t, ha, hb with
      | [], _, _ => rfl
      | y :: u, ha, hb =>
        simp at ha hb
        simp only
        rw [ih (y :: u) (by simp; omega) (by simp; omega), ih (u.drop _) (by simp; omega) (by simp; omega)]
    · rw [if_neg hz, if_neg hz, ih t ha hb]

def colF (l : List Int) : Option (List Int) := colf l.length l
theorem colF_nil : colF [] = some [] := rfl
theorem colF_other (z : Int) (t : List Int) (h : z ≠ 27) : colF (z :: t) = (colF t).map (z :: ·) := by
  unfold colF; simp only [List.length_cons, colf, if_neg h]
theorem colF_last : colF [27] = none := rfl
theorem colF_plain (y : Int) (u : List Int) (h : y ≠ 91) : colF (27 :: y :: u) = (colF (y :: u)).map ((27 : Int) :: ·) := by
  unfold colF; simp only [List.length_cons]; rw [colf]; simp only [if_true, if_neg h]
theorem colF_open (u : List Int) (h : firstFrom u 109 0 = -1) : colF (27 :: 91 :: u) = colF (91 :: u) := by
  unfold colF; simp only [List.length_cons]; rw [colf]; simp only [if_true, if_pos h]
theorem colF_cut (u : List Int) (k : Nat) (h : firstFrom u 109 0 = k) : colF (27 :: 91 :: u) = colF (u.drop (k + 1)) := by
  unfold colF; simp only [List.length_cons]; rw [colf]
  simp only [if_true, h]
  rw [if_neg (by omega), Int.toNat_natCast]
  exact colf_fuel _ _ _ (by simp; omega) (Nat.le_refl _)

theorem drop_nth (zs : List Int) (k : Nat) (h : k < zs.length) : zs.drop k = nth zs k :: zs.drop (k + 1) := by
  rw [List.drop_eq_getElem_cons h, nth_eq zs k h]

theorem firstFrom_range (zs : List Int) (c : Int) : firstFrom zs c 0 = -1 ∨ (0 ≤ firstFrom zs c 0 ∧ firstFrom zs c 0 < zs.length) := by
  suffices h : ∀ (l : List Int) (k : Nat), firstAt l c k = -1 ∨ ((k : Int) ≤ firstAt l c k ∧ firstAt l c k < k + l.length) by
    have := h (zs.drop 0) 0
    unfold firstFrom
    simpa using this
  intro l
  induction l with
  | nil => intro k; exact .inl rfl
  | cons z t ih =>
    intro k
    simp only [firstAt]
    split
    · right; simp; omega
    · rcases ih (k + 1) with h | h
      · exact .inl h
      · right; simp at h ⊢; omega

theorem bounds_index {α : Type} (P : Program) (x y : Int) (W : World) : ∃ v q, (boundsPanic (α := α) .i64 x y .index).run P W = .halt (.panic (.iface P.rt.boundsError v)) (W.drewN q) := by
  unfold boundsPanic
  split
  · exact ⟨_, 1, by simp [runtimePanic, goPanic, go_sem]; exact ⟨rfl, rfl⟩⟩
  · exact ⟨_, 0, by simp [runtimePanic, goPanic, go_sem]; exact ⟨rfl, rfl⟩⟩

theorem news_one (w : World) (v : Value) (t : TypeId) : ∀ (j : Nat) (u : Value), [v][j]? = some u → (w.alloc (.cells #[v] t)).cell? ((⟨w.heap.size, 0, none⟩ : Addr).add j) = some u := by
  intro j u h
  match j, h with
  | 0, h => simp at h; subst h; simp [Addr.add]
  | j + 1, h => simp at h

theorem map_some_app {o p : Option (List Int)} {acc : List Int} {z : Int} (h : o = p.map (z :: ·)) : o.map (acc ++ ·) = p.map ((acc ++ [z]) ++ ·) := by
  subst h; cases p <;> simp

def FilterPost (zs : List Int) (w : World) (e : Ending) (w' : World) : Prop :=
  (∃ F B c, colF zs = some F ∧ e = .returned (.slice (some ⟨B, 0, none⟩) F.length c) ∧ Below w.heap.size w w' ∧ F.length ≤ zs.length ∧ ∀ j, j < F.length → w'.cell? ⟨B, j, none⟩ = some (.int .i32 (nth F j))) ∨
  (colF zs = none ∧ ∃ u v, e = .panicked [{ v := .iface u v, recovered := false }] ∧ Below w.heap.size w w')

end Go.Proofs.YtmkefndmiagoaaaDoor
