/- laws.FnMoveTo. -/
import Derived.Test.YtdneljnldmhfoaaDoorOneLaw
import Derived.Test.YtdneljnldmhfoaaDoorRbMove
namespace Go.Proofs.YtdneljnldmhfoaaDoor
open Go.RowKit
set_option linter.unusedVariables false
set_option linter.unusedSimpArgs false

theorem key_move (l : List Int) (k : Nat) (kept : List Int) (s : ByteArray) (c : Int) (short back : Bool) (hk : k ≤ l.length) (hl : l.length ≤ 100000) (hc0 : 0 ≤ c) (hc1 : c ≤ 1114111) : KeyOk ⟨19, s, c, short, back⟩ l k kept (toldI (mvT back l c k)) l (mvK short back l c k) kept := fun rb w h => by
  have H : Hid (RB (w.alloc (.cells #[.int .i64 19, .string s, .int .i64 c, .bool short, .bool back] 30)) rb l k kept) := h.below ((Below.refl _ _).alloc (Nat.le_refl _) _)
  clear h
  have hc32 : IntKind.i32.wrap c = c := IntWalk.i32_in _ (by omega)
  have HM := Go.Lib.hid (moveto_any rb short back c l k kept _ H.out hk hl)
  unfold Ky.val
  obtain ⟨T, hT⟩ : ∃ T, T = mvT back l c k := ⟨_, rfl⟩
  obtain ⟨k', hk'⟩ : ∃ k', k' = mvK short back l c k := ⟨_, rfl⟩
  rw [← hT, ← hk'] at HM ⊢
  clear hT hk'
  go_enter Tryd.func30, Tryd.ntmps30
  go_wp2_with fail
  refine HM.out.mono ?_
  rintro e w1 ⟨rfl, h1, o1⟩
  have H1 := Go.Lib.hid h1
  clear h1
  go_wp2_with fail
  refine (told_impl T _).mono ?_
  rintro e w2 ⟨rfl, rfl⟩
  go_wp2_with fail
  go_returns
  exact ⟨rfl, H1.out, ((Own.refl _ _).alloc _).trans o1⟩

namespace fnMoveTo
theorem walk (s : ByteArray) (a c : Int) (short back : Bool) (w : World) (_hs : s.size ≤ maxLen) (_hat : (Lit.int .i64 a).wf = true) (hc : (Lit.int .u8 c).wf = true) {X : Prop} (_hL : X) :
    Calls Tryd.prog 6 #[.agg #[.string s, .int .i64 a], .int .u8 c, .bool short, .bool back] w fun e w' => e = .returned (.bool true) ∧ Below w.heap.size w w' := by
  have hcc := Go.bounds_u8 hc
  obtain ⟨hc0, hc1⟩ := hcc
  clear hc
  have hwc : IntKind.i64.wrap c = c := IntWalk.i64_in _ (by omega)
  go_enter Tryd.func6, Tryd.ntmps6
  go_wp2_with fail
  refine (fits11_any s a _).mono ?_
  rintro e w1 ⟨r, rfl, hr, b1⟩
  have e0 := (b1.cell (p := ⟨w.heap.size, 0, none⟩) (by simp)).trans (show _ = some (Value.string s) by simp [go_sem])
  have e1 := (b1.cell (p := ⟨w.heap.size, 1, none⟩) (by simp)).trans (show _ = some (Value.int .i64 a) by simp [go_sem])
  have B1 : Hid (Below w.heap.size w w1) := ((Below.refl _ _).alloc (Nat.le_refl _) _).trans (b1.mono (by simp))
  have HR := Go.Lib.hid hr
  clear b1 hr
  cases r
  · go_wp2_with fail
    go_returns
    exact ⟨rfl, B1.out⟩
  have hsz : s.size ≤ 2147483647 := HR.out (by trivial)
  clear HR
  go_wp2_with fail
  refine (one9_any s a ⟨19, ⟨#[]⟩, c, short, back⟩ w1 hsz (Nat.zero_le _) ?_).mono ?_
  · rintro i rfl hl hk
    have hll := runes_ascii_length s hl.1
    have h3 := hl.2.1
    have h4 := hl.2.2.2
    refine .inr (.inr ⟨_, _, _, _, _, do_move (runes s) i [] ⟨#[]⟩ c short back (by omega) (by omega) hc0 (by omega), key_move (runes s) i [] ⟨#[]⟩ c short back (by omega) (by omega) hc0 (by omega), by omega⟩)
  rintro e w2 ⟨rfl, b2⟩
  have B2 : Hid (Below w.heap.size w w2) := B1.out.trans (b2.mono B1.out.size)
  clear b2
  go_wp2_with fail
  go_returns
  exact ⟨rfl, B2.out⟩
end fnMoveTo
end Go.Proofs.YtdneljnldmhfoaaDoor
