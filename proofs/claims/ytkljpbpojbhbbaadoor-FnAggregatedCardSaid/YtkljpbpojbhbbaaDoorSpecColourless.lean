/- The contract of spec.Colourless. -/
import Derived.Test.YtkljpbpojbhbbaaDoorColourless
namespace Go.Proofs.YtkljpbpojbhbbaaDoor
open Go.RowKit
set_option linter.unusedVariables false
set_option linter.unusedSimpArgs false

/-- A row of the call's own, as a text. -/
theorem conv_own (W : World) (B : Nat) (v : Value) (F : List Int) (h : W.ownsRow B 21 1 v F.length (F.map (.int .i32))) :
    (convert 31 9 v).run Tryd.prog W = .ok (.string (runesBytes F)) W := by
  obtain ⟨_, ho⟩ := h
  rcases ho with ⟨rfl, hn⟩ | ⟨g, cap, cur, rfl, hg, hh, hn1, hcm, hcs, htk⟩
  · obtain rfl := List.eq_nil_of_length_eq_zero hn
    exact run_convert_runes_nil (P := Tryd.prog) W 31 9 21 0 0 Tryd.underlying31 Tryd.underlying21 Tryd.underlying9
  · refine conv_runes W g cap F fun j hj => ?_
    rw [World.cell?, hh]
    have := congrArg (·[j]?) htk
    simp [hj] at this
    simpa [nth, hj] using this

def SpecCl (s : ByteArray) (w : World) (e : Ending) (w' : World) : Prop :=
  (∃ F, colF (runes s) = some F ∧ e = .returned (.tuple #[.string (runesBytes F), .bool true]) ∧ Below w.heap.size w w') ∨
  (colF (runes s) = none ∧ e = .returned (.tuple #[.string ⟨#[]⟩, .bool false]) ∧ Below w.heap.size w w')

set_option maxRecDepth 100000 in
theorem spec_cl (s : ByteArray) (w : World) (hs : s.size ≤ 300) : Calls Tryd.prog 12 #[.string s] w (SpecCl s w) := by
  have hk := fun w => run_runes (P := Tryd.prog) w 9 31 21 s Tryd.underlying9 Tryd.underlying31 Tryd.underlying21 (by omega)
  have hl := runes_length s
  have hrow : Hid (∀ j, j < (runes s).length → (runeCells s (runeCap w 21 s))[j]? = some (.int .i32 (nth (runes s) j))) := fun j hj => runeCells_at s _ j hj
  obtain ⟨zs, hzs⟩ : ∃ zs, zs = runes s := ⟨_, rfl⟩
  have hcap := runeCap_ge w 21 s
  obtain ⟨n, hn⟩ : ∃ n, n = zs.length := ⟨_, rfl⟩
  unfold SpecCl
  simp only [← hzs, ← hn] at hk hl hcap hrow ⊢
  change Calls Tryd.prog 12 #[.string s] w (fun e w' => (∃ F, colF zs = some F ∧ e = .returned (.tuple #[.string (runesBytes F), .bool true]) ∧ Below w.heap.size w w') ∨
    (colF zs = none ∧ e = .returned (.tuple #[.string ⟨#[]⟩, .bool false]) ∧ Below w.heap.size w w'))
  have Hn := Go.Lib.hid hn
  clear hn hzs
  obtain ⟨ib, hib, hz0, hz1, hz2⟩ := info_parts (show (Tryd.prog.info? 21).map (fun i => (i.zero, i.size, i.bytes)) = some (some (.int .i32 0), 1, 4) by kernel_rfl)
  go_enter Tryd.func12, Tryd.ntmps12
  go_wp2_with fail
  go_loopw [5, 6] (fun v' i wr => ∃ (v : Value) (k : Nat) (acc : List Int), v = v' ∧ k ≤ n ∧ acc.length ≤ k ∧ i = .int .i64 k ∧ wr.ownsRow (w.heap.size + 1) 21 1 v acc.length (acc.map (.int .i32)) ∧ Below (w.heap.size + 1) (w.alloc (.cells (runeCells s (runeCap w 21 s)) 21)).drew wr ∧ Hid (colF zs = (colF (zs.drop k)).map (acc ++ ·))) (fun _ i _ => n - (intOf i).toNat)
  case atStart => exact ⟨_, 0, [], rfl, Nat.zero_le _, Nat.le_refl _, rfl, World.ownsRow_nil _ _ _ _, Below.refl _ _, by simp [Hid]⟩
  case round =>
    obtain ⟨v, k, acc, rfl, hk, hm, rfl, hown, hbw, HC⟩ := hrel
    have hbw' : Below w.heap.size w wr := ((Below.refl _ w).alloc (Nat.le_refl _) _).drew.trans (hbw.mono (by omega))
    by_cases hlt : k < n
    · have hck : wr.cell? ⟨w.heap.size, k, none⟩ = some (.int .i32 (nth zs k)) := (hbw.cell (p := ⟨w.heap.size, k, none⟩) (Nat.lt_succ_self _)).trans (by simp [hrow.out k hlt])
      have HD := Go.Lib.hid (drop_nth zs k (by rw [← Hn.out]; exact hlt))
      by_cases hz : nth zs k = 27
      · have hz' : (nth zs k != 27) = false := by simp [hz]
        have HZ := Go.Lib.hid hz
        clear hz
        by_cases hl2 : k + 1 < n
        · have hl2' : (((k : Int) + 1) == n) = false := by simp; omega
          have hck1 : wr.cell? ⟨w.heap.size, k + 1, none⟩ = some (.int .i32 (nth zs (k + 1))) := (hbw.cell (p := ⟨w.heap.size, k + 1, none⟩) (Nat.lt_succ_self _)).trans (by simp [hrow.out (k + 1) hl2])
          have HD1 := Go.Lib.hid (drop_nth zs (k + 1) (by rw [← Hn.out]; exact hl2))
          by_cases hy : nth zs (k + 1) = 91
          · have hy' : (nth zs (k + 1) != 91) = false := by simp [hy]
            have HY := Go.Lib.hid hy
            clear hy
            have hwo : wr.cell? ⟨w.heap.size, k, none⟩ = wr.cell? ⟨w.heap.size, k, none⟩ := rfl
            clear hwo
            go_wp2
            go_loop [6, 7] (fun i7 k7 => ∃ j : Nat, i7 = .int .i64 k ∧ k7 = .int .i64 ((k : Int) + 2 + j) ∧ k + 2 + j ≤ n ∧ Hid (firstFrom (zs.drop (k + 2)) 109 0 = firstFrom (zs.drop (k + 2)) 109 j)) (fun _ k7 => n - (intOf k7).toNat)
            case atStart => exact ⟨0, rfl, by simp, by omega, rfl⟩
            case round =>
              obtain ⟨j, rfl, rfl, hj, HJ⟩ := hrel
              have hlen : (zs.drop (k + 2)).length = n - (k + 2) := by simp; have := Hn.out; omega
              have HLen := Go.Lib.hid hlen
              clear hlen
              by_cases hjn : k + 2 + j < n
              · have hjn' : (k : Int) + 2 + j < n := by omega
                have hcj : wr.cell? ⟨w.heap.size, k + 2 + j, none⟩ = some (.int .i32 (nth (zs.drop (k + 2)) j)) := by
                  refine (hbw.cell (p := ⟨w.heap.size, k + 2 + j, none⟩) (Nat.lt_succ_self _)).trans ?_
                  simp [hrow.out (k + 2 + j) hjn]
                  simp [nth]
                have HS := Go.Lib.hid (firstFrom_step (zs.drop (k + 2)) 109 j (by have := HLen.out; omega))
                by_cases h9 : nth (zs.drop (k + 2)) j = 109
                · have h9' : (nth (zs.drop (k + 2)) j == 109) = true := by simp [h9]
                  have H9 := Go.Lib.hid h9
                  clear h9
                  go_wp2
                  go_roundw
                  case rel => exact ⟨v, k + 2 + (j + 1), acc, rfl, by omega, by omega, congrArg (Value.int .i64) (by omega), hown, hbw, by
                    have h0 := HJ.out
                    have h1 := HS.out
                    rw [if_pos H9.out] at h1
                    rw [Hid, HC.out, HD.out, HZ.out, HD1.out, HY.out, colF_cut _ j (h0.trans h1), List.drop_drop]⟩
                  case measure => simp [intOf]; omega
                · have h9' : (nth (zs.drop (k + 2)) j == 109) = false := by simpa using h9
                  have H9 := Go.Lib.hid h9
                  clear h9
                  go_wp2
                  go_round
                  case rel => exact ⟨j + 1, rfl, congrArg (Value.int .i64) (by omega), by omega, by
                    have h0 := HJ.out
                    have h1 := HS.out
                    rw [if_neg H9.out] at h1
                    exact h0.trans h1⟩
                  case measure => simp [intOf]; omega
              · have hjn' : ¬ (k : Int) + 2 + j < n := by omega
                go_wp2
                go_roundw
                case rel => exact ⟨v, k + 1, acc, rfl, by omega, by omega, by go_num, hown, hbw, by
                  have h0 := HJ.out.trans (firstFrom_end (zs.drop (k + 2)) 109 j (by have := HLen.out; omega))
                  rw [Hid, HC.out, HD.out, HZ.out, HD1.out, HY.out, colF_open _ h0]⟩
                case measure => simp [intOf]; omega
          · have hy' : (nth zs (k + 1) != 91) = true := by simp [hy]
            have HY := Go.Lib.hid hy
            clear hy
            have hc1 : wr.cell? ⟨w.heap.size, k, none⟩ = some (.int .i32 (nth zs k)) := hck
            go_wp2_with (at_builtin; refine wpList_append_own _ rfl _ _ 31 rfl (w.heap.size + 1) 21 ib (.int .i32 0) 1 4 Tryd.underlying31 hib hz0 hz1 hz2 rfl (by decide) v acc.length (acc.map (.int .i32)) rfl (hown.alloc _) ⟨wr.heap.size, 0, none⟩ 1 1 [.int .i32 (nth zs k)] rfl rfl (news_one _ _ _) (by simp [Value.oneCell']) ?c1 ?c2 ?c3 ?_)
            case c1 => unfold maxLen; omega
            case c2 => omega
            case c3 => have := hbw.size; simp at this ⊢; omega
            intro v2 w2 hown2 hgrow2 _
            have hb2 : Below (w.heap.size + 1) (w.alloc (.cells (runeCells s (runeCap w 21 s)) 21)).drew w2 := (hbw.alloc (by have := hbw.size; simp at this ⊢; omega) _).grown hgrow2 (by have := hbw.size; simp at this ⊢; omega) (fun j hj => (hown.lt j hj).1)
            have hown3 : w2.ownsRow (w.heap.size + 1) 21 1 v2 (acc ++ [nth zs k]).length ((acc ++ [nth zs k]).map (.int .i32)) := by simpa using hown2
            clear hgrow2 hown2 hown
            go_wp2
            go_roundw
            case rel => exact ⟨v2, k + 1, acc ++ [nth zs k], rfl, by omega, by simp; omega, by go_num, hown3, hb2, by rw [Hid, HC.out, HD.out]; exact map_some_app (by rw [HZ.out, HD1.out]; exact colF_plain _ _ HY.out)⟩
            case measure => simp [intOf]; omega
        · have hl2' : (((k : Int) + 1) == n) = true := by simp; omega
          go_wp2
          go_returns
          refine .inr ⟨?_, rfl, hbw'⟩
          rw [HC.out, HD.out, HZ.out, List.drop_eq_nil_of_le (by rw [← Hn.out]; omega), colF_last]; rfl
      · have hz' : (nth zs k != 27) = true := by simp [hz]
        have HZ := Go.Lib.hid hz
        clear hz
        have hc1 : wr.cell? ⟨w.heap.size, k, none⟩ = some (.int .i32 (nth zs k)) := hck
        go_wp2_with (at_builtin; refine wpList_append_own _ rfl _ _ 31 rfl (w.heap.size + 1) 21 ib (.int .i32 0) 1 4 Tryd.underlying31 hib hz0 hz1 hz2 rfl (by decide) v acc.length (acc.map (.int .i32)) rfl (hown.alloc _) ⟨wr.heap.size, 0, none⟩ 1 1 [.int .i32 (nth zs k)] rfl rfl (news_one _ _ _) (by simp [Value.oneCell']) ?c1 ?c2 ?c3 ?_)
        case c1 => unfold maxLen; omega
        case c2 => omega
        case c3 => have := hbw.size; simp at this ⊢; omega
        intro v2 w2 hown2 hgrow2 _
        have hb2 : Below (w.heap.size + 1) (w.alloc (.cells (runeCells s (runeCap w 21 s)) 21)).drew w2 := (hbw.alloc (by have := hbw.size; simp at this ⊢; omega) _).grown hgrow2 (by have := hbw.size; simp at this ⊢; omega) (fun j hj => (hown.lt j hj).1)
        have hown3 : w2.ownsRow (w.heap.size + 1) 21 1 v2 (acc ++ [nth zs k]).length ((acc ++ [nth zs k]).map (.int .i32)) := by simpa using hown2
        clear hgrow2 hown2 hown
        go_wp2
        go_roundw
        case rel => exact ⟨v2, k + 1, acc ++ [nth zs k], rfl, by omega, by simp; omega, by go_num, hown3, hb2, by rw [Hid, HC.out, HD.out]; exact map_some_app (colF_other _ _ HZ.out)⟩
        case measure => simp [intOf]; omega
    · have hcv := conv_own wr (w.heap.size + 1) v acc hown
      go_wp2
      go_returns
      refine .inl ⟨acc, ?_, rfl, hbw'⟩
      rw [HC.out, List.drop_eq_nil_of_le (by rw [← Hn.out]; omega), colF_nil]; simp
end Go.Proofs.YtkljpbpojbhbbaaDoor
