/- spec.Window, laws.FnWindow. -/
import Derived.Test.YtmjgcfghejjleaaChosenMore
namespace Go.Proofs.Ytmjgcfghejjleaa
open Go.RowKit
set_option linter.unusedVariables false
set_option linter.unusedSimpArgs false

theorem nxtF_spec (n m : Nat) (sel frm s : Int) (hn : 1 ≤ n) (hm : 1 ≤ m) (hg : Good n m sel frm) (hs : s = 1 ∨ s = 2 ∨ s = 3) :
    nxtF n m sel frm s = if nxtS n m sel frm s < 0 then 0 else if sel < 0 ∧ s = 2 then (n : Int) - min (m : Int) n else if frm + m ≤ nxtS n m sel frm s then frm + 1 else if nxtS n m sel frm s < frm then frm - 1 else frm := by
  obtain ⟨h1, h2, h3, h4, h5, h6⟩ := hg
  rcases hs with rfl | rfl | rfl
  · unfold nxtF nxtS
    simp only [if_true]
    repeat' split
    all_goals omega
  · by_cases e : sel < 0
    · have a1 : nxtS n m sel frm 2 = (n : Int) - 1 := by unfold nxtS; rw [if_neg (by omega), if_pos rfl, if_pos e]
      have a2 : nxtF n m sel frm 2 = (n : Int) - min (m : Int) n := by unfold nxtF; rw [if_neg (by omega), if_pos rfl, if_pos e]
      rw [a1, a2, if_neg (by omega), if_pos ⟨e, rfl⟩]
    · have a1 : nxtS n m sel frm 2 = sel - 1 := by unfold nxtS; rw [if_neg (by omega), if_pos rfl, if_neg e]
      have a2 : nxtF n m sel frm 2 = if frm = sel ∧ 0 < sel then frm - 1 else frm := by unfold nxtF; rw [if_neg (by omega), if_pos rfl, if_neg e]
      by_cases c : frm = sel ∧ 0 < sel
      · rw [if_pos c] at a2
        rw [a1, a2, if_neg (by omega), if_neg (fun h => e h.1), if_neg (by omega), if_pos (by omega)]
      · rw [if_neg c] at a2
        rw [a1, a2]
        by_cases e0 : sel - 1 < 0
        · rw [if_pos e0]; omega
        · rw [if_neg e0, if_neg (fun h => e h.1), if_neg (by omega), if_neg (by omega)]
  · unfold nxtF nxtS
    simp only [show ((3 : Int) = 1) = False by simp, show ((3 : Int) = 2) = False by simp, if_false]
    rw [if_pos (by omega)]

def WindowPost (R : Int × Int) (w : World) (e : Ending) (w' : World) : Prop := e = .returned (.tuple #[.int .i64 R.1, .int .i64 R.2]) ∧ w = w'

set_option maxRecDepth 100000 in
set_option maxHeartbeats 4000000 in
theorem window_spec (n m : Nat) (a : Option Addr) (cap : Nat) (zs : List Int) (w : World) (hn : 1 ≤ n) (hn2 : n ≤ 40) (hm : 1 ≤ m) (hm2 : m ≤ 20) (hi : IsInts .u8 w a zs) (hs : Steps zs) (hl : zs.length ≤ 1000) :
    Calls Try.prog 6 #[.int .i64 (n : Nat), .int .i64 (m : Nat), .slice a zs.length cap] w (WindowPost (runP n m zs (-1, 0)) w) := by
  obtain ⟨R, hR⟩ : ∃ R, R = runP n m zs (-1, 0) := ⟨_, rfl⟩
  rw [← hR]
  have HR := Go.Lib.hid hR
  have HI := Go.Lib.hid hi
  have HS := Go.Lib.hid hs
  clear hR hi hs
  go_enter Try.func6, Try.ntmps6
  go_wp2_with fail
  go_loop [6, 7, 8] (fun s f i => ∃ (j : Nat) (sel frm : Int), j ≤ zs.length ∧ s = .int .i64 sel ∧ f = .int .i64 frm ∧ i = .int .i64 j ∧ Hid (runP n m (zs.drop j) (sel, frm) = R ∧ Good n m sel frm)) (fun _ _ i => zs.length - (intOf i).toNat)
  case atStart => exact ⟨0, -1, 0, Nat.zero_le _, rfl, rfl, rfl, by rw [List.drop_zero]; exact HR.out.symm, ⟨by omega, by omega, by omega, by omega, fun _ => rfl, fun h => by omega⟩⟩
  case round =>
    obtain ⟨j, sel, frm, hj, rfl, rfl, rfl, HX⟩ := hrel
    by_cases hlt : j < zs.length
    · obtain ⟨hrun, hgood⟩ := HX.out
      rcases HI.out with h0 | ⟨b, off, rfl, hbl, hc⟩
      · rw [h0] at hlt; simp at hlt
      have cj := hc j hlt
      rw [runP_step _ _ zs j hlt] at hrun
      have hsj := HS.out j hlt
      have HN := Go.Lib.hid hsj
      have hF := nxtF_spec n m sel frm (nth zs j) hn hm hgood hsj
      have HRUN := Go.Lib.hid hrun
      have HG := Go.Lib.hid hgood
      have HG2 := Go.Lib.hid (Good.next (s := nth zs j) (by omega) (by omega) (by omega) hgood)
      generalize nth zs j = s at cj HN HRUN HG2 hF hsj
      clear hrun hc HX
      have hj0 : (0 : Int) ≤ j := by omega
      have hj1 : (j : Int) < zs.length := by omega
      have HCH : Hid (∀ w, Calls Try.prog 11 #[.int .i64 sel, .int .i64 (n : Nat), .int .u8 s] w fun e w' => e = .returned (.int .i64 (nxtS n m sel frm s)) ∧ w = w') := fun w => choose_spec n m sel frm s w hn hn2 HG.out HN.out
      obtain ⟨g1, g2, g3, g4, -⟩ := hgood
      obtain ⟨k1, k2, k3, k4, -⟩ := HG2.out
      dsimp only at HRUN HG2 k1 k2 k3 k4
      generalize nxtS n m sel frm s = N at HRUN HG2 hF HCH k1 k2
      generalize nxtF n m sel frm s = F at HRUN HG2 hF k3 k4
      obtain ⟨x, hx⟩ : ∃ x : Int, x = frm + m := ⟨_, rfl⟩
      have hwx : IntKind.i64.wrap (frm + (m : Int)) = x := by rw [hx]; exact IntWalk.i64_in _ (by omega)
      rw [← hx] at hF
      clear hx
      go_wp2_with fail
      refine (HCH.out _).mono ?_
      rintro e w1 ⟨rfl, rfl⟩
      by_cases h1 : N < 0
      · rw [if_pos h1] at hF
        obtain rfl := hF
        go_wp2_with fail
        go_round
        case rel => exact ⟨j + 1, N, 0, by omega, rfl, rfl, by go_num, HRUN.out, HG2.out⟩
        case measure => simp [intOf]; omega
      rw [if_neg h1] at hF
      by_cases h2 : sel < 0
      · by_cases h3 : s = 2
        · rw [if_pos ⟨h2, h3⟩] at hF
          subst h3
          by_cases h4 : (m : Int) ≤ n
          · have hw : IntKind.i64.wrap ((n : Int) - (m : Int)) = F := by rw [hF, IntWalk.i64_in _ (by omega)]; omega
            have hmin : min (m : Int) (n : Int) = m := by omega
            clear hF
            go_wp2_with fail
            go_round
            case rel => exact ⟨j + 1, N, F, by omega, rfl, rfl, by go_num, HRUN.out, HG2.out⟩
            case measure => simp [intOf]; omega
          · obtain rfl : F = 0 := by omega
            have hmin : min (m : Int) (n : Int) = n := by omega
            have h5 : (n : Int) < m := by omega
            clear hF
            go_wp2_with fail
            go_round
            case rel => exact ⟨j + 1, N, 0, by omega, rfl, rfl, by go_num, HRUN.out, HG2.out⟩
            case measure => simp [intOf]; omega
        · have h3' : (s == 2) = false := by simp [h3]
          rw [if_neg (fun h => h3 h.2)] at hF
          by_cases h5 : x ≤ N
          · rw [if_pos h5] at hF
            have hw : IntKind.i64.wrap (frm + 1) = F := by rw [hF]; exact IntWalk.i64_in _ (by omega)
            clear hF hsj
            go_wp2_with fail
            go_round
            case rel => exact ⟨j + 1, N, F, by omega, rfl, rfl, by go_num, HRUN.out, HG2.out⟩
            case measure => simp [intOf]; omega
          · rw [if_neg h5] at hF
            by_cases h6 : N < frm
            · rw [if_pos h6] at hF
              have hw : IntKind.i64.wrap (frm - 1) = F := by rw [hF]; exact IntWalk.i64_in _ (by omega)
              clear hF hsj
              go_wp2_with fail
              go_round
              case rel => exact ⟨j + 1, N, F, by omega, rfl, rfl, by go_num, HRUN.out, HG2.out⟩
              case measure => simp [intOf]; omega
            · rw [if_neg h6] at hF
              subst hF
              clear hsj
              go_wp2_with fail
              go_round
              case rel => exact ⟨j + 1, N, _, by omega, rfl, rfl, by go_num, HRUN.out, HG2.out⟩
              case measure => simp [intOf]; omega
      · rw [if_neg (fun h => h2 h.1)] at hF
        by_cases h5 : x ≤ N
        · rw [if_pos h5] at hF
          have hw : IntKind.i64.wrap (frm + 1) = F := by rw [hF]; exact IntWalk.i64_in _ (by omega)
          clear hF hsj
          go_wp2_with fail
          go_round
          case rel => exact ⟨j + 1, N, F, by omega, rfl, rfl, by go_num, HRUN.out, HG2.out⟩
          case measure => simp [intOf]; omega
        · rw [if_neg h5] at hF
          by_cases h6 : N < frm
          · rw [if_pos h6] at hF
            have hw : IntKind.i64.wrap (frm - 1) = F := by rw [hF]; exact IntWalk.i64_in _ (by omega)
            clear hF hsj
            go_wp2_with fail
            go_round
            case rel => exact ⟨j + 1, N, F, by omega, rfl, rfl, by go_num, HRUN.out, HG2.out⟩
            case measure => simp [intOf]; omega
          · rw [if_neg h6] at hF
            subst hF
            clear hsj
            go_wp2_with fail
            go_round
            case rel => exact ⟨j + 1, N, _, by omega, rfl, rfl, by go_num, HRUN.out, HG2.out⟩
            case measure => simp [intOf]; omega
    · obtain ⟨hrun, hgood⟩ := HX.out
      rw [List.drop_of_length_le (by omega)] at hrun
      have HRUN : Hid ((sel, frm) = R) := hrun
      clear hrun hgood
      have hj1 : ¬ (j : Int) < zs.length := by omega
      go_wp2_with fail
      go_returns
      exact ⟨by rw [← HRUN.out]; rfl, rfl⟩

namespace fnWindow
def Post (w : World) (e : Ending) (w' : World) : Prop := e = .returned (.bool true) ∧ Below w.heap.size w w'

set_option maxRecDepth 100000 in
set_option maxHeartbeats 4000000 in
theorem walk (many most : Int) (a : Option Addr) (len cap : Nat) (zs : List Int) (w : World) (h1 : (Lit.int .i64 many).wf = true) (h2 : (Lit.int .i64 most).wf = true) (h3 : zs.length = len ∧ IsInts .u8 w a zs ∧ ∀ n ∈ zs, (Lit.int .u8 n).wf = true) :
    Calls Try.prog 3 #[.int .i64 many, .int .i64 most, .slice a len cap] w fun e w' => e = .returned (.bool true) ∧ Below w.heap.size w w' := by
  show Calls _ _ _ _ (Post w)
  clear h1 h2
  obtain ⟨rfl, hi, -⟩ := h3
  have HI := Go.Lib.hid hi
  clear hi
  by_cases g0 : (2147483647 : Int) < zs.length
  · go_enter Try.func3, Try.ntmps3
    go_wp2_with fail
    go_returns
    exact ⟨rfl, Below.refl _ _⟩
  by_cases g1 : many < 1
  · go_enter Try.func3, Try.ntmps3
    go_wp2_with fail
    go_returns
    exact ⟨rfl, Below.refl _ _⟩
  by_cases g2 : 40 < many
  · go_enter Try.func3, Try.ntmps3
    go_wp2_with fail
    go_returns
    exact ⟨rfl, Below.refl _ _⟩
  by_cases g3 : most < 1
  · go_enter Try.func3, Try.ntmps3
    go_wp2_with fail
    go_returns
    exact ⟨rfl, Below.refl _ _⟩
  by_cases g4 : 20 < most
  · go_enter Try.func3, Try.ntmps3
    go_wp2_with fail
    go_returns
    exact ⟨rfl, Below.refl _ _⟩
  by_cases g5 : (60 : Int) < zs.length
  · go_enter Try.func3, Try.ntmps3
    go_wp2_with fail
    go_returns
    exact ⟨rfl, Below.refl _ _⟩
  obtain ⟨n, rfl⟩ : ∃ n : Nat, many = n := ⟨many.toNat, by omega⟩
  obtain ⟨m, rfl⟩ : ∃ n : Nat, most = n := ⟨most.toNat, by omega⟩
  go_enter Try.func3, Try.ntmps3
  go_wp2_with fail
  go_loop [7] (fun i => ∃ (j : Nat), j ≤ zs.length ∧ i = .int .i64 j ∧ Hid (∀ q, q < j → nth zs q = 1 ∨ nth zs q = 2 ∨ nth zs q = 3)) (fun i => zs.length - (intOf i).toNat)
  case atStart => exact ⟨0, Nat.zero_le _, rfl, fun q hq => by omega⟩
  case round =>
    obtain ⟨j, hj, rfl, HX⟩ := hrel
    by_cases hlt : j < zs.length
    · rcases HI.out with h0 | ⟨b, off, rfl, hbl, hc⟩
      · rw [h0] at hlt; simp at hlt
      have cj := hc j hlt
      obtain ⟨s, hs⟩ : ∃ s, s = nth zs j := ⟨_, rfl⟩
      rw [← hs] at cj
      have HSJ := Go.Lib.hid hs
      clear hs hc
      have hj0 : (0 : Int) ≤ j := by omega
      have hj1 : (j : Int) < zs.length := by omega
      by_cases e1 : s < 1
      · go_wp2_with fail
        go_returns
        exact ⟨rfl, Below.refl _ _⟩
      by_cases e2 : 3 < s
      · go_wp2_with fail
        go_returns
        exact ⟨rfl, Below.refl _ _⟩
      have HXN : Hid (∀ q, q < j + 1 → nth zs q = 1 ∨ nth zs q = 2 ∨ nth zs q = 3) := fun q hq => by
        by_cases e : q < j
        · exact HX.out q e
        · obtain rfl : q = j := by omega
          have := HSJ.out
          omega
      go_wp2_with fail
      go_round
      case rel => exact ⟨j + 1, by omega, by go_num, HXN.out⟩
      case measure => simp [intOf]; omega
    · have HST : Hid (Steps zs) := fun q hq => HX.out q (by omega)
      have hj1 : ¬ (j : Int) < zs.length := by omega
      go_wp2_with fail
      refine (shown_any n m a cap zs w (by omega) (by omega) (by omega) (by omega) HI.out HST.out (by omega)).mono ?_
      rintro e w1 ⟨rfl, b1⟩
      have B1 := Go.Lib.hid b1
      clear b1
      go_wp2_with fail
      refine (window_spec n m a cap zs w1 (by omega) (by omega) (by omega) (by omega) (HI.out.below B1.out) HST.out (by omega)).mono ?_
      rintro e w2 ⟨rfl, rfl⟩
      go_wp2_with fail
      go_returns
      exact ⟨rfl, B1.out⟩
end fnWindow
end Go.Proofs.Ytmjgcfghejjleaa
