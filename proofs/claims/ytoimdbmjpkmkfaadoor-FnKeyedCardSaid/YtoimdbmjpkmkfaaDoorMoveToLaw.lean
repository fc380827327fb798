/- laws.FnMoveTo. -/
import Derived.Test.YtoimdbmjpkmkfaaDoorOneLaw
import Derived.Test.YtoimdbmjpkmkfaaDoorRbMove
namespace Go.Proofs.YtoimdbmjpkmkfaaDoor
open Go.RowKit
set_option linter.unusedVariables false
set_option linter.unusedSimpArgs false

theorem key_move (l : List Int) (k : Nat) (kept : List Int) (s : ByteArray) (c : Int) (short back : Bool) (hk : k ≤ l.length) (hl : l.length ≤ 100000) (hc0 : 0 ≤ c) (hc1 : c ≤ 1114111) : KeyOk ⟨19, s, c, short, back⟩ l k kept (toldI (mvT back l c k)) l (mvK short back l c k) kept := fun rb w h => by
  have H : Hid (RB (w.alloc (.cells #[.int .i64 19, .string s, .int .i64 c, .bool short, .bool back] 30)) rb l k kept) := h.below ((Below.refl _ _).alloc (Nat.le_refl _) _)
  clear h
  have hc32 : IntKind.i32.wrap c = c := IntWalk.i32_in _ (by omega)
  have HM := Go.Lib.hid (moveto_any rb short back c l k kept _ H.out hk hl)
  unfold Ky.val
  obtain ⟨T, hT⟩ : ∃ T, T = mvT back l c k := ⟨_, rfl⟩
  obtain ⟨k', hk'⟩ : ∃ k', k' = mvK short back l c k := ⟨_, rfl⟩
  rw [← hT, ← hk'] at HM ⊢
  clear hT hk'
  go_enter Tryd.func23, Tryd.ntmps23
  go_wp2_with fail
  refine HM.out.mono ?_
  rintro e w1 ⟨rfl, h1, o1⟩
  have H1 := Go.Lib.hid h1
  clear h1
  go_wp2_with fail
  refine (told_impl T _).mono ?_
  rintro e w2 ⟨rfl, rfl⟩
  go_wp2_with fail
  go_returns
  exact ⟨rfl, H1.out, ((Own.refl _ _).alloc _).trans o1⟩

namespace fnMoveTo
end fnMoveTo
end Go.Proofs.YtoimdbmjpkmkfaaDoor
