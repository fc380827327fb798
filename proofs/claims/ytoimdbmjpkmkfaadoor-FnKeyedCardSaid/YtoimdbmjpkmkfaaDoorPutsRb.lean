/- RuneBuffer.Replace, Transpose where they do not fail. -/
import Derived.Test.YtoimdbmjpkmkfaaDoorRbMethods
namespace Go.Proofs.YtoimdbmjpkmkfaaDoor
open Go.RowKit
set_option linter.unusedVariables false
set_option linter.unusedSimpArgs false

/-- A store into a row of its own. -/
theorem Row.put {w : World} {base g : Nat} {cap : Nat} {l : List Int} (h : Row w base (some ⟨g, 0, none⟩) cap l) (j : Nat) (hj : j < l.length) (v : Int) : Row (w.setCell ⟨g, j, none⟩ (.int .i32 v)) base (some ⟨g, 0, none⟩) cap (l.set j v) := by
  obtain ⟨h1, h2⟩ := h
  rcases h2 with ⟨h2, _⟩ | ⟨g', c, cur, hv, hg, hh, hn, hc, hcs, htk⟩
  · cases h2
  · cases hv
    refine ⟨by simp [i32s], .inr ⟨g, cap, cur.set! j (.int .i32 v), by simp, hg, ?_, by simpa using hn, hc, by simpa using hcs, ?_⟩⟩
    · simp [World.setCell, Array.getElem?_modify, hh]
    · simp only [List.length_set, Nat.mul_one] at htk ⊢
      rw [Array.set!_eq_setIfInBounds, Array.toList_setIfInBounds, List.take_set, htk]
      simp [i32s, List.map_set]

theorem Row.some {w : World} {base : Nat} {A : Option Addr} {cap : Nat} {l : List Int} (h : Row w base A cap l) (hl : 0 < l.length) :
    ∃ g, A = some ⟨g, 0, none⟩ ∧ base ≤ g ∧ g < w.heap.size ∧ I32 w g ∧ (∀ (j : Nat) (v : Int), l[j]? = some v → w.cell? ⟨g, j, none⟩ = some (.int .i32 v)) ∧ ∀ j, w.frozen? ⟨g, j, none⟩ = false := by
  rcases h.own with ⟨_, _, e⟩ | ⟨g, rfl, h1, h2, h3, _, h5⟩
  · rw [e] at hl; simp at hl
  · refine ⟨g, rfl, h1, h2, h3, h5, fun j => ?_⟩
    rcases h.2 with ⟨h0, _⟩ | ⟨g', c, cur, hv, hg, hh, _⟩
    · cases h0
    · cases hv
      simp [World.frozen?, hh]

/-- The line with another code point at a place. -/
theorem RBv.put {w : World} {rb : Nat} {l : List Int} {k : Nat} {kept : List Int} {g cap : Nat} {B : Option Addr} {cap2 : Nat} (h : RBv w rb l k kept (some ⟨g, 0, none⟩) cap B cap2) (j : Nat) (hj : j < l.length) (v : Int) :
    RBv (w.setCell ⟨g, j, none⟩ (.int .i32 v)) rb (l.set j v) k kept (some ⟨g, 0, none⟩) cap B cap2 := by
  have hb := h.r0.blk_lt (show blk (some ⟨g, 0, none⟩) = some g from rfl)
  have o : ∀ i, (w.setCell ⟨g, j, none⟩ (.int .i32 v)).cell? ⟨rb, i, none⟩ = w.cell? ⟨rb, i, none⟩ := fun i => World.cell?_setCell_other _ _ _ _ (by intro e; have := congrArg Addr.block e; simp at this; omega)
  exact ⟨by rw [List.length_set]; exact (o 0).trans h.c0, (o 1).trans h.c1, (o 10).trans h.c10, h.r0.put j hj v, h.r10.kept fun k _ _ _ hk => Below.heap_setCell _ _ _ _ (fun (e : k = g) => h.ap g rfl (e ▸ hk)), h.ap, fun j => by rw [World.frozen?_setCell]; exact h.f j, by simpa [World.setCell] using h.sz, fun h' => h.ni (i32_setCell h')⟩
theorem Own.row {rb : Nat} {a w : World} (h : Own rb a w) {g : Nat} (hg : rb < g) (hi : I32 w g) (o : Nat) (u : Value) : Own rb a (w.setCell ⟨g, o, none⟩ u) :=
  h.trans ⟨rfl, rfl, rfl, by simp [World.setCell], fun k _ h1 h2 => Below.heap_setCell _ _ _ _ (fun (e : k = g) => by
    rcases h2 with h2 | h2
    · omega
    · exact h2 (e ▸ hi))⟩

theorem replace_cl (rb N M : Nat) (c : Int) (l : List Int) (k : Nat) (kept : List Int) (w : World) (h : RB w rb l k kept) (hN : Cap w rb N) (hM : w.cell? ⟨M, 0, none⟩ = some (.int .i32 c)) (hk : k < l.length) (hl : l.length ≤ 100000) :
    Calls Tryd.prog 58 #[.pointer (some ⟨M, 0, none⟩), .pointer (some ⟨N, 0, none⟩)] w fun e w' => e = .returned (.tuple #[]) ∧ (RB w' rb (l.set k c) k kept ∧ Own rb w w') := by
  obtain ⟨A, cap, B, cap2, hv⟩ := h
  obtain ⟨g, rfl, hg, hgz, hi, hc, hf⟩ := hv.r0.some (by omega)
  have HV := Go.Lib.hid hv
  have HI := Go.Lib.hid hi
  have HN := Go.Lib.hid hN
  have ck := hc k l[k] (by simp [hk])
  have fk := hf k
  obtain ⟨c0, c1, -, -, -, -, f, sz, -⟩ := hv
  obtain ⟨cN, ltN, neN, -⟩ := hN
  generalize l[k] = old at ck
  clear f hc hf hi
  have hkz : (k : Int) < l.length := by omega
  go_enter Tryd.func58, Tryd.ntmps58
  go_wp2_with fail
  refine region_quiet_tail 9 (by kernel_rfl) (by kernel_rfl) ?_
  simp only [List.take_succ_cons, List.take_zero, List.drop_succ_cons, List.drop_zero]
  repeat (go_big_quiet_step (fail))
  refine wpQuiet_nil ?_
  intro _ hw'
  obtain ⟨nq, hw''⟩ := hw'
  subst hw''
  go_wp2_with fail
  go_returns
  have hv2 : RBv (w.drewN nq) rb l k kept (some ⟨g, 0, none⟩) cap B cap2 := HV.out.below (below_drewN (Below.refl _ _) _)
  exact ⟨rfl, ⟨_, _, _, _, hv2.put k hk c⟩, ((Own.refl rb w).drewN nq).row hg HI.out _ _⟩
end Go.Proofs.YtoimdbmjpkmkfaaDoor
