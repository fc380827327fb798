/- The contract of readline's Runes.ColorFilter. -/
import Derived.Test.YtkljpbpojbhbbaaDoorIndexOff
import Derived.Deep.RegionWith
import Derived.WalkSmall
namespace Go.Proofs.YtkljpbpojbhbbaaDoor
open Go.RowKit
set_option linter.unusedVariables false
set_option linter.unusedSimpArgs false

/-- A list without sequences of colours; none where an escape is the last sign that is looked at. -/
def colf : Nat → List Int → Option (List Int)
  | 0, _ => some []
  | _ + 1, [] => some []
  | n + 1, z :: t =>
    if z = 27 then
      match t with
      | [] => none
      | y :: u => if y = 91 then (if firstFrom u 109 0 = -1 then colf n t else colf n (u.drop ((firstFrom u 109 0).toNat + 1))) else (colf n t).map (z :: ·)
    else (colf n t).map (z :: ·)

theorem colf_fuel : ∀ (a b : Nat) (l : List Int), l.length ≤ a → l.length ≤ b → colf a l = colf b l
  | 0, b, l, ha, _ => by
    obtain rfl : l = [] := List.eq_nil_of_length_eq_zero (by omega)
    cases b <;> rfl
  | a + 1, b, [], _, _ => by cases b <;> rfl
  | a + 1, 0, z :: t, _, hb => by simp at hb
  | a + 1, b + 1, z :: t, ha, hb => by
    simp at ha hb
    have ih := fun l h1 h2 => colf_fuel a b l h1 h2
    unfold colf
    by_cases hz : z = 27
    · rw [if_pos hz, if_pos hz]
      match t, ha, hb with
      | [], _, _ => rfl
      | y :: u, ha, hb =>
        simp at ha hb
        simp only
        rw [ih (y :: u) (by simp; omega) (by simp; omega), ih (u.drop _) (by simp; omega) (by simp; omega)]
    · rw [if_neg hz, if_neg hz, ih t ha hb]

def colF (l : List Int) : Option (List Int) := colf l.length l
theorem colF_nil : colF [] = some [] := rfl
theorem colF_other (z : Int) (t : List Int) (h : z ≠ 27) : colF (z :: t) = (colF t).map (z :: ·) := by
  unfold colF; simp only [List.length_cons, colf, if_neg h]
theorem colF_last : colF [27] = none := rfl
theorem colF_plain (y : Int) (u : List Int) (h : y ≠ 91) : colF (27 :: y :: u) = (colF (y :: u)).map ((27 : Int) :: ·) := by
  unfold colF; simp only [List.length_cons]; rw [colf]; simp only [if_true, if_neg h]
theorem colF_open (u : List Int) (h : firstFrom u 109 0 = -1) : colF (27 :: 91 :: u) = colF (91 :: u) := by
  unfold colF; simp only [List.length_cons]; rw [colf]; simp only [if_true, if_pos h]
theorem colF_cut (u : List Int) (k : Nat) (h : firstFrom u 109 0 = k) : colF (27 :: 91 :: u) = colF (u.drop (k + 1)) := by
  unfold colF; simp only [List.length_cons]; rw [colf]
  simp only [if_true, h]
  rw [if_neg (by omega), Int.toNat_natCast]
  exact colf_fuel _ _ _ (by simp; omega) (Nat.le_refl _)

theorem drop_nth (zs : List Int) (k : Nat) (h : k < zs.length) : zs.drop k = nth zs k :: zs.drop (k + 1) := by
  rw [List.drop_eq_getElem_cons h, nth_eq zs k h]

theorem firstFrom_range (zs : List Int) (c : Int) : firstFrom zs c 0 = -1 ∨ (0 ≤ firstFrom zs c 0 ∧ firstFrom zs c 0 < zs.length) := by
  suffices h : ∀ (l : List Int) (k : Nat), firstAt l c k = -1 ∨ ((k : Int) ≤ firstAt l c k ∧ firstAt l c k < k + l.length) by
    have := h (zs.drop 0) 0
    unfold firstFrom
    simpa using this
  intro l
  induction l with
  | nil => intro k; exact .inl rfl
  | cons z t ih =>
    intro k
    simp only [firstAt]
    split
    · right; simp; omega
    · rcases ih (k + 1) with h | h
      · exact .inl h
      · right; simp at h ⊢; omega

theorem bounds_index {α : Type} (P : Program) (x y : Int) (W : World) : ∃ v q, (boundsPanic (α := α) .i64 x y .index).run P W = .halt (.panic (.iface P.rt.boundsError v)) (W.drewN q) := by
  unfold boundsPanic
  split
  · exact ⟨_, 1, by simp [runtimePanic, goPanic, go_sem]; exact ⟨rfl, rfl⟩⟩
  · exact ⟨_, 0, by simp [runtimePanic, goPanic, go_sem]; exact ⟨rfl, rfl⟩⟩

theorem news_one (w : World) (v : Value) (t : TypeId) : ∀ (j : Nat) (u : Value), [v][j]? = some u → (w.alloc (.cells #[v] t)).cell? ((⟨w.heap.size, 0, none⟩ : Addr).add j) = some u := by
  intro j u h
  match j, h with
  | 0, h => simp at h; subst h; simp [Addr.add]
  | j + 1, h => simp at h

theorem map_some_app {o p : Option (List Int)} {acc : List Int} {z : Int} (h : o = p.map (z :: ·)) : o.map (acc ++ ·) = p.map ((acc ++ [z]) ++ ·) := by
  subst h; cases p <;> simp

def FilterPost (zs : List Int) (w : World) (e : Ending) (w' : World) : Prop :=
  (∃ F B c, colF zs = some F ∧ e = .returned (.slice (some ⟨B, 0, none⟩) F.length c) ∧ Below w.heap.size w w' ∧ F.length ≤ zs.length ∧ ∀ j, j < F.length → w'.cell? ⟨B, j, none⟩ = some (.int .i32 (nth F j))) ∨
  (colF zs = none ∧ ∃ u v, e = .panicked [{ v := .iface u v, recovered := false }] ∧ Below w.heap.size w w')

set_option maxRecDepth 100000 in
theorem filter_any (w : World) (g cap n : Nat) (zs : List Int) (hn : n = zs.length) (hrow : ∀ j, j < zs.length → w.cell? ⟨g, j, none⟩ = some (.int .i32 (nth zs j))) (hlen : n ≤ 300) (hc : n ≤ cap) (hb : cap ≤ 9223372036854775807) (hg : g < w.heap.size) :
    Calls Tryd.prog 41 #[.agg #[], .slice (some ⟨g, 0, none⟩) n cap] w (FilterPost zs w) := by
  have H := Go.Lib.hid hrow
  have Hn := Go.Lib.hid hn
  clear hrow hn
  obtain ⟨ib, hib, hz0, hz1, hz2⟩ := info_parts (show (Tryd.prog.info? 21).map (fun i => (i.zero, i.size, i.bytes)) = some (some (.int .i32 0), 1, 4) by kernel_rfl)
  have hld : ∀ (W : World) (a : Addr), (loadVar 69 a).run Tryd.prog W = .ok (.agg #[]) W := fun W a => by kernel_rfl
  go_enter Tryd.func41, Tryd.ntmps41
  go_wp2_with (at_make; refine wpList_make_own _ rfl _ _ 31 rfl (w.heap.size + 1) 21 ib (.int .i32 0) 1 Tryd.underlying31 hib hz0 hz1 .i64 .i64 (n : Int) n rfl rfl rfl ?c2 ?c3 ?c4 ?_)
  case c2 => rw [hz2]; omega
  case c3 => unfold maxLen; omega
  case c4 => simp
  intro w1 hown hgrow
  have hbl : Below w.heap.size w w1 := ((Below.refl _ _).alloc (Nat.le_refl _) _).grown hgrow (by simp) (fun k hk => by cases hk)
  clear hgrow
  go_wp2
  go_loopw [5, 6] (fun r i wr => ∃ (k : Nat) (acc : List Int), k ≤ n ∧ acc.length ≤ k ∧ i = .int .i64 k ∧ r = .slice (some ⟨w.heap.size + 1, 0, none⟩) acc.length n ∧ wr.ownsRow (w.heap.size + 1) 21 1 (.slice (some ⟨w.heap.size + 1, 0, none⟩) acc.length n) acc.length (acc.map (.int .i32)) ∧ Below w.heap.size w wr ∧ Hid (colF zs = (colF (zs.drop k)).map (acc ++ ·))) (fun _ i _ => n - (intOf i).toNat)
  case atStart => exact ⟨0, [], Nat.zero_le _, Nat.le_refl _, rfl, rfl, hown, hbl, by simp [Hid]⟩
  case round =>
    obtain ⟨k, acc, hk, hm, rfl, rfl, hown, hbw, HC⟩ := hrel
    by_cases hlt : k < n
    · have hck : wr.cell? ⟨g, k, none⟩ = some (.int .i32 (nth zs k)) := (hbw.cell (p := ⟨g, k, none⟩) hg).trans (H.out k (by rw [← Hn.out]; exact hlt))
      have HD := Go.Lib.hid (drop_nth zs k (by rw [← Hn.out]; exact hlt))
      by_cases hz : nth zs k = 27
      · have hz' : (nth zs k == 27) = true := by simp [hz]
        have HZ := Go.Lib.hid hz
        by_cases hl2 : k + 1 < n
        · have hck1 : wr.cell? ⟨g, k + 1, none⟩ = some (.int .i32 (nth zs (k + 1))) := (hbw.cell (p := ⟨g, k + 1, none⟩) hg).trans (H.out (k + 1) (by rw [← Hn.out]; exact hl2))
          have HD1 := Go.Lib.hid (drop_nth zs (k + 1) (by rw [← Hn.out]; exact hl2))
          clear hz
          by_cases hy : nth zs (k + 1) = 91
          · have hy' : (nth zs (k + 1) == 91) = true := by simp [hy]
            have HY := Go.Lib.hid hy
            clear hy
            obtain ⟨A, hA, ha⟩ := run_cut (P := Tryd.prog) 31 21 Tryd.underlying31 sizeI32 g 0 n cap (k + 2) ((k : Int) + 2) (by omega) (by omega) hc
            have hrow : RuneRow wr A (zs.drop (k + 2)) := fun j hj => by
              simp at hj
              have hn' := Hn.out
              refine ⟨g, 0 + (k + 2), ha (by omega), ?_⟩
              have := (hbw.cell (p := ⟨g, k + 2 + j, none⟩) hg).trans (H.out (k + 2 + j) (by omega))
              rw [show 0 + (k + 2) + j = k + 2 + j from by omega, this]
              simp [nth]
            have hlen' : n - (k + 2) = (zs.drop (k + 2)).length := by simp; have := Hn.out; omega
            have HL := Go.Lib.hid hlen'
            have HR := Go.Lib.hid hrow.drew
            clear ha hrow hlen'
            go_wp2_with fail
            have hw2 : IntKind.i64.wrap ((k : Int) + 2) = (k : Int) + 2 := IntWalk.i64_in _ (by omega)
            go_region_with ((go_at_call 57; refine (index_off A (n - (k + 2)) _ (zs.drop (k + 2)) 109 wr.drew HL.out HR.out (by omega)).mono ?_; rintro e w' ⟨rfl, rfl⟩))
            clear hw2
            have hrg := firstFrom_range (zs.drop (k + 2)) 109
            have hb2 : Below w.heap.size w (wr.alloc (.cells #[] 69)) := hbw.alloc hbw.size _
            have hown2 := hown.alloc (.cells #[] 69)
            generalize hx : firstFrom (zs.drop (k + 2)) 109 0 = x at hrg ⊢
            have HX := Go.Lib.hid hx
            clear hx
            rcases hrg with rfl | ⟨hx0, hx1⟩
            · go_wp2
              go_roundw
              case rel => exact ⟨k + 1, acc, by omega, by omega, by go_num, rfl, hown2, hb2.drew, by rw [Hid, HC.out, HD.out, HZ.out, HD1.out, HY.out, colF_open _ HX.out]⟩
              case measure => simp [intOf]; omega
            · obtain ⟨m, rfl⟩ := Int.eq_ofNat_of_zero_le hx0
              simp at hx1
              have hn' := Hn.out
              have hkm : k + m + 3 ≤ n := by omega
              clear hn'
              have hne : ((m : Int) == -1) = false := by simp
              go_wp2
              go_roundw
              case rel => exact ⟨k + m + 3, acc, hkm, by omega, congrArg (Value.int .i64) (by omega), rfl, hown2, hb2.drew, by rw [Hid, HC.out, HD.out, HZ.out, HD1.out, HY.out, colF_cut _ m HX.out, List.drop_drop, show k + 2 + (m + 1) = k + m + 3 from by omega]⟩
              case measure => simp [intOf]; omega
          · have hy' : (nth zs (k + 1) == 91) = false := by simpa using hy
            have HY := Go.Lib.hid hy
            clear hy
            go_wp2_with (at_builtin; refine wpList_append_fits _ rfl _ _ 31 rfl (w.heap.size + 1) 21 ib 1 Tryd.underlying31 hib hz1 (w.heap.size + 1) acc.length n (acc.map (.int .i32)) rfl (hown.alloc _) ⟨wr.heap.size, 0, none⟩ 1 1 [.int .i32 (nth zs k)] rfl rfl (news_one _ _ _) (by simp [Value.oneCell']) ?c3 ?_)
            case c3 => omega
            intro w2 hown2 hgrow2
            have hb2 : Below w.heap.size w w2 := (hbw.alloc hbw.size _).grown hgrow2 (by simp; have := hbw.size; omega) (fun k hk => by cases hk; omega)
            have hown3 : w2.ownsRow (w.heap.size + 1) 21 1 (.slice (some ⟨w.heap.size + 1, 0, none⟩) (acc ++ [(nth zs k)]).length n) (acc ++ [(nth zs k)]).length ((acc ++ [(nth zs k)]).map (.int .i32)) := by simpa using hown2
            clear hgrow2 hown2 hown
            go_wp2
            go_roundw
            case rel => exact ⟨k + 1, acc ++ [(nth zs k)], by omega, by simp; omega, by go_num, by simp, hown3, hb2, by rw [Hid, HC.out, HD.out]; exact map_some_app (by rw [HZ.out, HD1.out]; exact colF_plain _ _ HY.out)⟩
            case measure => simp [intOf]; omega
        · clear hz
          obtain ⟨pv, q, hr⟩ := bounds_index (α := Value) Tryd.prog ((k : Int) + 1) n wr
          go_wp2
          refine ⟨rfl, .inr ⟨?_, _, pv, rfl, below_drewN hbw q⟩⟩
          rw [HC.out, HD.out, HZ.out, List.drop_eq_nil_of_le (by rw [← Hn.out]; omega), colF_last]; rfl
      · have hz' : (nth zs k == 27) = false := by simpa using hz
        have HZ := Go.Lib.hid hz
        clear hz
        go_wp2_with (at_builtin; refine wpList_append_fits _ rfl _ _ 31 rfl (w.heap.size + 1) 21 ib 1 Tryd.underlying31 hib hz1 (w.heap.size + 1) acc.length n (acc.map (.int .i32)) rfl (hown.alloc _) ⟨wr.heap.size, 0, none⟩ 1 1 [.int .i32 (nth zs k)] rfl rfl (news_one _ _ _) (by simp [Value.oneCell']) ?c3 ?_)
        case c3 => omega
        intro w2 hown2 hgrow2
        have hb2 : Below w.heap.size w w2 := (hbw.alloc hbw.size _).grown hgrow2 (by simp; have := hbw.size; omega) (fun k hk => by cases hk; omega)
        have hown3 : w2.ownsRow (w.heap.size + 1) 21 1 (.slice (some ⟨w.heap.size + 1, 0, none⟩) (acc ++ [(nth zs k)]).length n) (acc ++ [(nth zs k)]).length ((acc ++ [(nth zs k)]).map (.int .i32)) := by simpa using hown2
        clear hgrow2 hown2 hown
        go_wp2
        go_roundw
        case rel => exact ⟨k + 1, acc ++ [(nth zs k)], by omega, by simp; omega, by go_num, by simp, hown3, hb2, by rw [Hid, HC.out, HD.out]; exact map_some_app (colF_other _ _ HZ.out)⟩
        case measure => simp [intOf]; omega
    · obtain ⟨_, ho⟩ := hown
      rcases ho with ⟨ho, _⟩ | ⟨g1, cap1, cur, hv, hg1, hh, hn1, hcm, hcs, htk⟩
      · cases ho
      obtain ⟨rfl, rfl⟩ : g1 = w.heap.size + 1 ∧ cap1 = n := by cases hv; exact ⟨rfl, rfl⟩
      have HH := Go.Lib.hid hh
      have HT := Go.Lib.hid htk
      clear hh htk hv hcs
      go_wp2
      go_returns
      refine .inl ⟨acc, w.heap.size + 1, _, ?_, rfl, hbw, by rw [← Hn.out]; omega, fun j hj => ?_⟩
      · rw [HC.out, List.drop_eq_nil_of_le (by rw [← Hn.out]; omega), colF_nil]; simp
      · rw [World.cell?, HH.out]
        have := congrArg (·[j]?) HT.out
        simp [hj] at this
        simpa [nth, hj] using this
end Go.Proofs.YtkljpbpojbhbbaaDoor
