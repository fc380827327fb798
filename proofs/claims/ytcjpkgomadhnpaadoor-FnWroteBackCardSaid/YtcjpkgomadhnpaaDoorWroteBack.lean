/- impl.Wrote at one move of the cursor; laws.FnWroteBack. -/
import Derived.Test.YtcjpkgomadhnpaaDoorVtCursor
import Derived.Laws.BytesArg
namespace Go.Proofs.YtcjpkgomadhnpaaDoor
open Go.RowKit
set_option linter.unusedVariables false
set_option linter.unusedSimpArgs false

/-- The text of the bytes that a writer holds. -/
theorem vt_text {w : World} {vb : Nat} {l : List UInt8} {A : Option Addr} {cap : Nat} (h : VTv w vb l A cap) : (convert 29 9 (.slice A l.length cap)).run Tryd.prog w = .ok (.string (strB l)) w := by
  rcases h.r.own with ⟨rfl, rfl, e⟩ | ⟨g, rfl, _, _, _, _, hc⟩
  · obtain rfl : l = [] := by simpa [nums] using e
    exact run_convert_bytes_nil (P := Tryd.prog) w 29 5 Tryd.underlying29 Tryd.underlying5 0 0 9 Tryd.underlying9
  · exact run_convert_bytes_back (P := Tryd.prog) w 29 9 5 ⟨g, 0, none⟩ cap l Tryd.underlying29 Tryd.underlying5 Tryd.underlying9 (fun j hj => by
      have e : (⟨g, 0, none⟩ : Addr).add j = ⟨g, j, none⟩ := by
        unfold Addr.add
        by_cases e : j = 0
        · rw [if_pos e, e]
        · rw [if_neg e, Nat.zero_add]
      rw [e]
      exact hc j _ (by simp [nums, hj]))

theorem bytes_any (vb : Nat) (l : List UInt8) (A : Option Addr) (cap : Nat) (w : World) (h : VTv w vb l A cap) : Calls Tryd.prog 6 #[.pointer (some ⟨vb, 0, none⟩)] w fun e w' => e = .returned (.slice A l.length cap) ∧ w = w' := by
  have c := h.c
  clear h
  go_enter Tryd.func6, Tryd.ntmps6
  go_wp2_with fail
  go_returns
  exact ⟨rfl, rfl⟩

/-- What a move of the cursor writes. -/
def MoveOk (op : Int) (n : Int) (q : List UInt8) : Prop := ∀ (vb : Nat) (l : List UInt8) (w : World), VT w vb l → Pow w → l.length ≤ 800000 →
  Calls Tryd.prog 5 #[.pointer (some ⟨vb, 0, none⟩), .agg #[.int .i64 op, .int .i64 n, .int .i64 0, .string ⟨#[]⟩]] w fun e w' => e = .returned (.bool true) ∧ (VT w' vb (l ++ q) ∧ OwnB vb w w')

set_option maxRecDepth 100000 in
theorem wrote_up (n : Int) (h0 : -99999 ≤ n) (h1 : n ≤ 99999) : MoveOk 3 n (mvSeq n 65 66) := fun vb l w h hp hl => by
  have bk : Below w.heap.size w (w.alloc (.cells #[.int .i64 3, .int .i64 n, .int .i64 0, .string ⟨#[]⟩] 25)) := (Below.refl _ _).alloc (Nat.le_refl _) _
  have HC := Go.Lib.hid (CursorUp_any vb l n _ (h.below bk) (hp.below bk) h0 h1 (by omega))
  clear h hp bk
  generalize mvSeq n 65 66 = q at HC ⊢
  go_enter Tryd.func5, Tryd.ntmps5
  go_wp2_with fail
  refine HC.out.mono ?_
  rintro e w1 ⟨rfl, v1, o1⟩
  have HV := Go.Lib.hid v1
  have HO := Go.Lib.hid (((OwnB.refl _ _).alloc _).trans o1)
  clear v1 o1
  go_wp2_with fail
  go_returns
  exact ⟨rfl, HV.out, HO.out⟩

set_option maxRecDepth 100000 in
theorem wrote_down (n : Int) (h0 : -99999 ≤ n) (h1 : n ≤ 99999) : MoveOk 4 n (mvSeq n 66 65) := fun vb l w h hp hl => by
  have bk : Below w.heap.size w (w.alloc (.cells #[.int .i64 4, .int .i64 n, .int .i64 0, .string ⟨#[]⟩] 25)) := (Below.refl _ _).alloc (Nat.le_refl _) _
  have HC := Go.Lib.hid (CursorDown_any vb l n _ (h.below bk) (hp.below bk) h0 h1 (by omega))
  clear h hp bk
  generalize mvSeq n 66 65 = q at HC ⊢
  go_enter Tryd.func5, Tryd.ntmps5
  go_wp2_with fail
  refine HC.out.mono ?_
  rintro e w1 ⟨rfl, v1, o1⟩
  have HV := Go.Lib.hid v1
  have HO := Go.Lib.hid (((OwnB.refl _ _).alloc _).trans o1)
  clear v1 o1
  go_wp2_with fail
  go_returns
  exact ⟨rfl, HV.out, HO.out⟩

set_option maxRecDepth 100000 in
theorem wrote_forward (n : Int) (h0 : -99999 ≤ n) (h1 : n ≤ 99999) : MoveOk 5 n (mvSeq n 67 68) := fun vb l w h hp hl => by
  have bk : Below w.heap.size w (w.alloc (.cells #[.int .i64 5, .int .i64 n, .int .i64 0, .string ⟨#[]⟩] 25)) := (Below.refl _ _).alloc (Nat.le_refl _) _
  have HC := Go.Lib.hid (CursorForward_any vb l n _ (h.below bk) (hp.below bk) h0 h1 (by omega))
  clear h hp bk
  generalize mvSeq n 67 68 = q at HC ⊢
  go_enter Tryd.func5, Tryd.ntmps5
  go_wp2_with fail
  refine HC.out.mono ?_
  rintro e w1 ⟨rfl, v1, o1⟩
  have HV := Go.Lib.hid v1
  have HO := Go.Lib.hid (((OwnB.refl _ _).alloc _).trans o1)
  clear v1 o1
  go_wp2_with fail
  go_returns
  exact ⟨rfl, HV.out, HO.out⟩

set_option maxRecDepth 100000 in
theorem wrote_backward (n : Int) (h0 : -99999 ≤ n) (h1 : n ≤ 99999) : MoveOk 6 n (mvSeq n 68 67) := fun vb l w h hp hl => by
  have bk : Below w.heap.size w (w.alloc (.cells #[.int .i64 6, .int .i64 n, .int .i64 0, .string ⟨#[]⟩] 25)) := (Below.refl _ _).alloc (Nat.le_refl _) _
  have HC := Go.Lib.hid (CursorBackward_any vb l n _ (h.below bk) (hp.below bk) h0 h1 (by omega))
  clear h hp bk
  generalize mvSeq n 68 67 = q at HC ⊢
  go_enter Tryd.func5, Tryd.ntmps5
  go_wp2_with fail
  refine HC.out.mono ?_
  rintro e w1 ⟨rfl, v1, o1⟩
  have HV := Go.Lib.hid v1
  have HO := Go.Lib.hid (((OwnB.refl _ _).alloc _).trans o1)
  clear v1 o1
  go_wp2_with fail
  go_returns
  exact ⟨rfl, HV.out, HO.out⟩

set_option maxRecDepth 100000 in
set_option maxHeartbeats 1000000 in
theorem wrote_one (op n : Int) (q : List UInt8) (hm : MoveOk op n q) (b : Nat) (w : World) (hp : Pow w) (hb : b < w.heap.size) (h0 : -99999 ≤ n) (h1 : n ≤ 99999) (hq : q.length ≤ 100)
    (c0 : w.cell? ⟨b, 0, none⟩ = some (.int .i64 op)) (c1 : w.cell? ⟨b, 1, none⟩ = some (.int .i64 n)) (c2 : w.cell? ⟨b, 2, none⟩ = some (.int .i64 0)) (c3 : w.cell? ⟨b, 3, none⟩ = some (.string ⟨#[]⟩)) :
    Calls Tryd.prog 4 #[.slice (some ⟨b, 0, none⟩) 1 1] w fun e w' => e = .returned (.tuple #[.string (strB q), .bool true]) ∧ Below w.heap.size w w' := by
  have HM := Go.Lib.hid hm
  have hneg : IntKind.i64.wrap (-n) = -n := IntWalk.i64_in _ (by omega)
  obtain ⟨W, hW⟩ : ∃ W, W = w.alloc (.cells #[.slice none 0 0] 31) := ⟨_, rfl⟩
  have bW : Below w.heap.size w W := by rw [hW]; exact (Below.refl _ _).alloc (Nat.le_refl _) _
  have zW : W.heap.size = w.heap.size + 1 := by rw [hW]; simp
  have VW : VT W w.heap.size [] := ⟨none, 0, by rw [hW]; simp [go_sem], World.ownsRow_nil _ _ _ _, by rw [hW]; simp [go_sem], by omega, fun ⟨cur, fr, e⟩ => by
    rw [hW, heap_alloc_new] at e
    simp at e⟩
  have PW : Hid (Pow W) := hp.below bW
  have HV := Go.Lib.hid VW
  have HB := Go.Lib.hid bW
  have d0 := (bW.cell (p := ⟨b, 0, none⟩) hb).trans c0
  have d1 := (bW.cell (p := ⟨b, 1, none⟩) hb).trans c1
  have d2 := (bW.cell (p := ⟨b, 2, none⟩) hb).trans c2
  have d3 := (bW.cell (p := ⟨b, 3, none⟩) hb).trans c3
  clear hm hp bW VW c0 c1 c2 c3
  go_enter Tryd.func4, Tryd.ntmps4
  go_wp2_with fail
  rw [← hW]
  clear hW
  go_loopw [11] (fun i wr => (i = .int .i64 0 ∧ wr = W) ∨ (i = .int .i64 1 ∧ VT wr w.heap.size q ∧ Below w.heap.size w wr)) (fun i _ => 1 - (intOf i).toNat)
  case atStart => exact .inl ⟨rfl, rfl⟩
  case round =>
    rcases hrel with ⟨rfl, rfl⟩ | ⟨rfl, hv, hb1⟩
    · have bA : Below wr.heap.size wr (wr.alloc (.cells #[.int .i64 op, .int .i64 n, .int .i64 0, .string ⟨#[]⟩] 25)) := (Below.refl _ _).alloc (Nat.le_refl _) _
      have HV2 := Go.Lib.hid (HV.out.below bA)
      have HP2 := Go.Lib.hid (Pow.below PW.out bA)
      have HB2 := Go.Lib.hid (HB.out.trans (bA.mono HB.out.size))
      clear bA
      by_cases e0 : n = 0
      · subst e0
        go_wp2_with fail
        refine (HM.out w.heap.size [] _ HV2.out HP2.out (by simp)).mono ?_
        rintro e w1 ⟨rfl, v1, o1⟩
        have HV3 := Go.Lib.hid v1
        have HB3 : Hid (Below w.heap.size w w1) := HB2.out.trans (o1.below (Nat.le_refl _) HB2.out.size)
        clear v1 o1
        go_wp2_with fail
        go_roundw
        case rel => exact .inr ⟨rfl, HV3.out, HB3.out⟩
        case measure => simp [intOf]
      · have e1 : (n == -n) = false := by simp; omega
        clear e0
        go_wp2_with fail
        refine (HM.out w.heap.size [] _ HV2.out HP2.out (by simp)).mono ?_
        rintro e w1 ⟨rfl, v1, o1⟩
        have HV3 := Go.Lib.hid v1
        have HB3 : Hid (Below w.heap.size w w1) := HB2.out.trans (o1.below (Nat.le_refl _) HB2.out.size)
        clear v1 o1
        go_wp2_with fail
        go_roundw
        case rel => exact .inr ⟨rfl, HV3.out, HB3.out⟩
        case measure => simp [intOf]
    · obtain ⟨A, cap, hvv⟩ := hv
      have HVV := Go.Lib.hid hvv
      have HB1 := Go.Lib.hid hb1
      have hcv := vt_text hvv
      clear hvv hb1
      generalize hql : q.length = ql at hcv
      have HQL := Go.Lib.hid hql
      clear hql
      go_wp2_with fail
      refine (bytes_any w.heap.size q A cap wr HVV.out).mono ?_
      rw [HQL.out]
      rintro e w1 ⟨rfl, rfl⟩
      go_wp2_with fail
      go_returns
      exact ⟨rfl, HB1.out⟩
end Go.Proofs.YtcjpkgomadhnpaaDoor
