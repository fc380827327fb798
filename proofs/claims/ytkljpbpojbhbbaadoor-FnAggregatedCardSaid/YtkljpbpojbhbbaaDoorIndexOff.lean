/- The contract of readline's Runes.Index: the first place of a code point, -1 if there is none. -/
import Derived.Test.YtkljpbpojbhbbaaDoorTexts
namespace Go.Proofs.YtkljpbpojbhbbaaDoor
open Go.RowKit
set_option linter.unusedVariables false
set_option linter.unusedSimpArgs false

/-- A slice of code points in memory: where something stands in it, its cells. -/
def RuneRow (w : World) (A : Option Addr) (zs : List Int) : Prop := ∀ j, j < zs.length → ∃ g o, A = some ⟨g, o, none⟩ ∧ w.cell? ⟨g, o + j, none⟩ = some (.int .i32 (nth zs j))

theorem RuneRow.drew {w : World} {A : Option Addr} {zs : List Int} (h : RuneRow w A zs) : RuneRow w.drew A zs := h

theorem RuneRow.of {w : World} {g o : Nat} {zs : List Int} (h : ∀ j, j < zs.length → w.cell? ⟨g, o + j, none⟩ = some (.int .i32 (nth zs j))) : RuneRow w (some ⟨g, o, none⟩) zs := fun j hj => ⟨g, o, rfl, h j hj⟩

/-- A slice's tail: its address is known where something stands in it. -/
theorem run_cut {P : Program} (t e : TypeId) (ht : P.underlying t = some (.slice e)) (hi : ∀ w, (sizeOf (P.elem t)).run P w = .ok 1 w) (g o n cap l : Nat) (l' : Int) (hl' : l' = l) (hl : l ≤ n) (hc : n ≤ cap) :
    ∃ A, (∀ w, (Instr.slice t (.slice (some ⟨g, o, none⟩) n cap) (some (.int .i64 l')) none none).run P w = .ok (.slice A (n - l) (cap - l)) w) ∧ (l < cap → A = some ⟨g, o + l, none⟩) := by
  subst hl'
  refine ⟨if cap = l then some ⟨g, o, none⟩ else some ⟨g, o + l, none⟩, fun w => ?_, fun h => by rw [if_neg (by omega)]⟩
  have he : P.elem t = e := by simp [Program.elem, ht]
  rw [run_slice_l w t _ n cap (by rw [he]; exact ht) .i64 l (by omega) (by omega), hi]
  simp only [Result.andThen, sliced, Nat.mul_one, Int.toNat_natCast]
  by_cases h : cap = l
  · rw [if_pos h, if_pos h]
  · rw [if_neg h, if_neg h]
    simp only [Option.map_some, Addr.add]
    by_cases h0 : l = 0
    · rw [if_pos h0, h0]; rfl
    · rw [if_neg h0]

theorem sizeI32 (w : World) : (sizeOf (Tryd.prog.elem 31)).run Tryd.prog w = .ok 1 w := by kernel_rfl

theorem index_off (A : Option Addr) (n cap : Nat) (zs : List Int) (c : Int) (w : World) (hn : n = zs.length) (hrow : RuneRow w A zs) (hlen : n ≤ 2147483647) :
    Calls Tryd.prog 57 #[.agg #[], .int .i32 c, .slice A n cap] w fun e w' => e = .returned (.int .i64 (firstFrom zs c 0)) ∧ w' = w.alloc (.cells #[] 69) := by
  have H := Go.Lib.hid hrow
  have Hn := Go.Lib.hid hn
  clear hrow hn
  obtain ⟨res, hres⟩ : ∃ r, r = firstFrom zs c 0 := ⟨_, rfl⟩
  rw [← hres]
  have Hr := Go.Lib.hid hres
  clear hres
  go_enter Tryd.func57, Tryd.ntmps57
  go_wp2
  go_loop [7] (fun i => ∃ k : Nat, k ≤ n ∧ i = .int .i64 k ∧ Hid (res = firstFrom zs c k)) (fun i => n - (intOf i).toNat)
  case atStart => exact ⟨0, Nat.zero_le _, rfl, Hr⟩
  case round =>
    obtain ⟨k, hk, rfl, HK⟩ := hrel
    by_cases hlt : k < n
    · obtain ⟨g, o, rfl, hc⟩ := H.out k (by rw [← Hn.out]; exact hlt)
      have hg : g < w.heap.size := lt_of_cell hc
      have HS := Go.Lib.hid (firstFrom_step zs c k (by rw [← Hn.out]; exact hlt))
      by_cases hz : nth zs k = c
      · have hz' : (nth zs k == c) = true := by simp [hz]
        have HZ := Go.Lib.hid hz
        clear hz
        go_wp2
        go_returns
        exact ⟨by have := HS.out; rw [if_pos HZ.out] at this; rw [HK.out, this]; rfl, rfl⟩
      · have hz' : (nth zs k == c) = false := by simpa using hz
        have HZ := Go.Lib.hid hz
        clear hz
        go_wp2
        go_round
        case rel => exact ⟨k + 1, by omega, by go_num, by have := HS.out; rw [if_neg HZ.out] at this; exact HK.out.trans this⟩
        case measure => simp [intOf]; omega
    · have e : res = -1 := HK.out.trans (firstFrom_end zs c k (by rw [← Hn.out]; omega))
      have E := Go.Lib.hid e
      clear e
      go_wp2
      go_returns
      exact ⟨by rw [E.out]; rfl, rfl⟩
end Go.Proofs.YtkljpbpojbhbbaaDoor
