/- The walk of laws.FnKeyReset. -/
import Derived.Test.YtnejdgacabdcdaaDoorRbGuards
namespace Go.Proofs.YtnejdgacabdcdaaDoor
open Go.RowKit
set_option linter.unusedVariables false
set_option linter.unusedSimpArgs false

namespace fnKeyReset
def Post (w : World) (e : Ending) (w' : World) : Prop := e = .returned (.bool true) ∧ Below w.heap.size w w'

set_option maxRecDepth 100000 in
set_option maxHeartbeats 4000000 in
theorem walk (s : ByteArray) (a : Int) (w : World) (_hs : s.size ≤ maxLen) (_hat : (Lit.int .i64 a).wf = true) {X : Prop} (_hL : X) :
    Calls Tryd.prog 4 #[.agg #[.string s, .int .i64 a]] w fun e w' => e = .returned (.bool true) ∧ Below w.heap.size w w' := by
  show Calls _ _ _ _ (Post w)
  clear _hs _hat _hL
  go_enter Tryd.func4, Tryd.ntmps4
  go_wp2_with fail
  refine (fits11_any s a _).mono ?_
  rintro e w1 ⟨b, rfl, hb, b1⟩
  have B1 : Hid (Below w.heap.size w w1) := ((Below.refl w.heap.size w).alloc (Nat.le_refl _) _).trans (b1.mono (by simp))
  have c0 : w1.cell? ⟨w.heap.size, 0, none⟩ = some (.string s) := (b1.cell (p := ⟨w.heap.size, 0, none⟩) (by simp)).trans (by simp [go_sem])
  have c1 : w1.cell? ⟨w.heap.size, 1, none⟩ = some (.int .i64 a) := (b1.cell (p := ⟨w.heap.size, 1, none⟩) (by simp)).trans (by simp [go_sem])
  have z1 : w.heap.size < w1.heap.size := by have := b1.size; simp at this; omega
  have HF := Go.Lib.hid hb
  clear hb b1
  cases b
  · go_wp2_with fail
    go_returns
    exact ⟨rfl, B1.out⟩
  have hs : s.size ≤ 2147483647 := HF.out rfl
  go_wp2_with fail
  refine (line9_any s a _ hs).mono ?_
  rintro e w2 ⟨b, rfl, hb, b2⟩
  have B2 : Hid (Below w.heap.size w w2) := B1.out.trans (b2.mono B1.out.size)
  have d0 := (b2.cell (p := ⟨w.heap.size, 0, none⟩) z1).trans c0
  have d1 := (b2.cell (p := ⟨w.heap.size, 1, none⟩) z1).trans c1
  have z2 : w.heap.size < w2.heap.size := Nat.lt_of_lt_of_le z1 b2.size
  have HL := Go.Lib.hid hb
  clear hb b2 c0 c1 B1 HF
  cases b
  · go_wp2_with fail
    go_returns
    exact ⟨rfl, B2.out⟩
  obtain ⟨⟨hA, -, h0, h1⟩, -⟩ := HL.out rfl
  have HA := Go.Lib.hid hA
  obtain ⟨k, rfl⟩ : ∃ k : Nat, a = k := ⟨a.toNat, by omega⟩
  clear hA HL
  by_cases h100 : (100 : Int) < s.size
  · go_wp2_with fail
    go_returns
    exact ⟨rfl, B2.out⟩
  by_cases hk : k = s.size
  · have hk' : ((k : Int) == (s.size : Int)) = true := by rw [hk]; simp
    clear hk
    go_wp2_with fail
    go_returns
    exact ⟨rfl, B2.out⟩
  have hkl : k < s.size := by omega
  have hk' : ((k : Int) == (s.size : Int)) = false := by simp; omega
  have hrl : (runes s).length = s.size := runes_ascii_length s HA.out
  obtain ⟨t, ht⟩ : ∃ t, t = s.size - k := ⟨_, rfl⟩
  obtain ⟨out, ho⟩ : ∃ o, o = s.extract k s.size := ⟨_, rfl⟩
  have HX := Go.Lib.hid (after_new s k [⟨21, ⟨#[]⟩, 0, false, false⟩] [-1] [] [] 0 ⟨#[]⟩ (by omega) HA.out (by omega)
    (.cons (key_reset (runes s) k [] (by omega) (by omega) _ _ _ _) (.nil _ _ _)) (by kernel_rfl) (by simp) (by simp) (by simp))
  have HY := Go.Lib.hid (after_new s k [⟨15, ⟨#[]⟩, 0, false, false⟩, ⟨21, ⟨#[]⟩, 0, false, false⟩, ⟨17, ⟨#[]⟩, 0, false, false⟩] [-1, -1, -1] ((runes s).drop k) ((runes s).drop k) t out (by omega) HA.out (by omega) (by
    have k1 := key_kill (runes s) k [] (by omega) (by omega) ⟨#[]⟩ 0 false false
    have k2 := key_reset ((runes s).take k) k ((runes s).drop k) (by simp; omega) (by simp; omega) ⟨#[]⟩ 0 false false
    have k3 := key_yank [] 0 ((runes s).drop k) (by simp) (by simp) (by simp; omega) (by simp; omega) ⟨#[]⟩ 0 false false
    have e : 0 + ((runes s).drop k).length = t := by simp; omega
    rw [e] at k3
    simp only [List.take_nil, List.drop_nil, List.nil_append, List.append_nil] at k3
    exact .cons k1 (.cons k2 (.cons k3 (.nil _ _ _)))) (by rw [ho]; exact bytes_drop s HA.out k) (by simp; omega) (by simp) (by simp))
  have hw : IntKind.i64.wrap ((s.size : Int) - (k : Int)) = (t : Int) := by rw [IntWalk.i64_in _ (by omega)]; omega
  have hsl : ∀ w, (Instr.slice 9 (.string s) (some (.int .i64 (k : Nat))) none none).run Tryd.prog w = .ok (.string out) w := fun w => by
    rw [run_slice_string_from_if (P := Tryd.prog) w 9 s .i64 (k : Nat) Tryd.underlying9, if_pos ⟨by omega, by omega⟩, ho]
    simp
  clear ho hrl ht
  go_wp2_with fail
  refine (HX.out _ _ _ ?hn ?h).mono ?_
  case hn => rfl
  case h => rfl
  rintro e w3 ⟨rfl, b3⟩
  have B3 : Hid (Below w.heap.size w w3) := B2.out.trans (b3.mono B2.out.size)
  have e0 := (b3.cell (p := ⟨w.heap.size, 0, none⟩) z2).trans d0
  have e1 := (b3.cell (p := ⟨w.heap.size, 1, none⟩) z2).trans d1
  have z3 : w.heap.size < w3.heap.size := Nat.lt_of_lt_of_le z2 b3.size
  clear b3 d0 d1 B2
  go_wp2_with fail
  refine (HY.out _ _ _ ?hn ?h).mono ?_
  case hn => simp
  case h => rfl
  rintro e w4 ⟨rfl, b4⟩
  have B4 : Hid (Below w.heap.size w w4) := (B3.out.alloc (by omega) _).trans (b4.mono (by simp; omega))
  have g0 : w4.cell? ⟨w.heap.size, 0, none⟩ = some (.string s) := (b4.cell (p := ⟨w.heap.size, 0, none⟩) (by simp; omega)).trans ((World.cell?_of_block (Below.heap_alloc _ _ _ z3)).trans e0)
  have g1 : w4.cell? ⟨w.heap.size, 1, none⟩ = some (.int .i64 (k : Nat)) := (b4.cell (p := ⟨w.heap.size, 1, none⟩) (by simp; omega)).trans ((World.cell?_of_block (Below.heap_alloc _ _ _ z3)).trans e1)
  have x0 : w4.cell? ⟨w3.heap.size, 0, none⟩ = some (.string ⟨#[]⟩) := (b4.cell (p := ⟨w3.heap.size, 0, none⟩) (by simp)).trans (by simp [go_sem])
  have x1 : w4.cell? ⟨w3.heap.size, 1, none⟩ = some (.int .i64 0) := (b4.cell (p := ⟨w3.heap.size, 1, none⟩) (by simp)).trans (by simp [go_sem])
  have z4 : w3.heap.size < w4.heap.size := by have := b4.size; simp at this; omega
  have z5 : w.heap.size < w4.heap.size := by omega
  clear b4 e0 e1 B3
  go_wp2_with fail
  go_quiet (fail)
  go_wp2_with fail
  go_returns
  exact ⟨rfl, below_drewN (B4.out.alloc (by omega) _) _⟩
end fnKeyReset
end Go.Proofs.YtnejdgacabdcdaaDoor
