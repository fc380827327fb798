/- manager, Shown, spec.Choose, spec.Window; laws.FnWindow. -/
import Derived.Test.YtmjgcfghejjleaaChosen
import Derived.Test.YtmjgcfghejjleaaRowInts
namespace Go.Proofs.Ytmjgcfghejjleaa
open Go.RowKit
set_option linter.unusedVariables false
set_option linter.unusedSimpArgs false

theorem new_manager (f : Value) (hf : ∃ a b c, f = .func a b c) (m : Nat) (w : World) : Calls Try.prog 12 #[f, .int .u16 (m : Nat)] w fun e w' => e = .returned (.pointer (some ⟨w.heap.size, 0, none⟩)) ∧ w' = w.alloc (.cells #[.int .i64 (-1), .slice none 0 0, .int .u16 (m : Nat), f, .int .i64 0, .string ⟨#[]⟩, .bool false] 42) := by
  obtain ⟨a, b, c, rfl⟩ := hf
  go_enter Try.func12, Try.ntmps12
  go_wp2_with fail
  go_returns
  exact ⟨rfl, rfl⟩

theorem u16_small : ∀ m : Nat, m < 21 → IntKind.u16.wrap (m : Int) = (m : Int) := by decide

def MadePost (n m : Nat) (w : World) (e : Ending) (w' : World) : Prop := ∃ cb ib A, e = .returned (.pointer (some ⟨cb, 0, none⟩)) ∧ w.heap.size ≤ cb ∧ CM w' cb ib A n m (-1) 0 (.slice A n n) ∧ Below w.heap.size w w'

set_option maxRecDepth 100000 in
set_option maxHeartbeats 4000000 in
theorem manager_any (n m : Nat) (w : World) (hn : 1 ≤ n) (hn2 : n ≤ 40) (hm : 1 ≤ m) (hm2 : m ≤ 20) :
    Calls Try.prog 8 #[.int .i64 (n : Nat), .int .i64 (m : Nat)] w (MadePost n m w) := by
  obtain ⟨ib, hib, hz0, hz1, hz2⟩ := info_parts (show (Try.prog.info? 63).map (fun i => (i.zero, i.size, i.bytes)) = some (some (.agg #[.string ⟨#[]⟩, .string ⟨#[]⟩]), 2, 32) by kernel_rfl)
  have hmf : ∀ (fn : Fn) (first cap : Array Value) (w : World), (Instr.makeFunc fn first cap).run Try.prog w = .ok (.func fn first cap) w := fun _ _ _ _ => rfl
  have hmu : IntKind.u16.wrap (m : Int) = (m : Int) := u16_small m (by omega)
  have g1 : ¬ (n : Int) < 0 := by omega
  have g2 : ¬ (1000 : Int) < n := by omega
  have g3 : ¬ (m : Int) < 0 := by omega
  have g4 : ¬ (65535 : Int) < m := by omega
  go_enter Try.func8, Try.ntmps8
  go_wp2_with (at_make; refine wpList_make_full _ rfl _ _ 34 rfl w.heap.size 63 ib _ 2 Try.underlying34 hib hz0 hz1 .i64 .i64 (n : Int) (n : Int) n rfl rfl rfl rfl ?c2 ?c3 ?c4 ?_)
  case c2 => omega
  case c3 => unfold maxLen; omega
  intro w1 hown hgrow
  have hb1 : Below w.heap.size w w1 := (Below.refl _ w).grown hgrow (Nat.le_refl _) (fun k hk => by cases hk)
  have B1 := Go.Lib.hid hb1
  clear hown hgrow hb1
  go_wp2_with fail
  refine (new_manager _ ⟨_, _, _, rfl⟩ m _).mono ?_
  rintro e w2 ⟨rfl, rfl⟩
  have hib : ((w1.alloc (.cells #[.slice (some ⟨w.heap.size, 0, none⟩) n n] 34)).alloc (.cells #[.int .i64 (-1), .slice none 0 0, .int .u16 (m : Nat), .func (.func 13) #[] #[.pointer (some ⟨w1.heap.size, 0, none⟩)], .int .i64 0, .string ⟨#[]⟩, .bool false] 42)).cell? ⟨w1.heap.size, 0, none⟩ = some (.slice (some ⟨w.heap.size, 0, none⟩) n n) := by simp [go_sem]
  have H2 : Hid (CM ((w1.alloc (.cells #[.slice (some ⟨w.heap.size, 0, none⟩) n n] 34)).alloc (.cells #[.int .i64 (-1), .slice none 0 0, .int .u16 (m : Nat), .func (.func 13) #[] #[.pointer (some ⟨w1.heap.size, 0, none⟩)], .int .i64 0, .string ⟨#[]⟩, .bool false] 42)) (w1.heap.size + 1) w1.heap.size (some ⟨w.heap.size, 0, none⟩) n m (-1) 0 (.slice none 0 0)) :=
    ⟨by simp [go_sem], by simp [go_sem], by simp [go_sem], by simp [go_sem], by simp [go_sem], hib, fun j => by simp [go_sem], by simp, by simp <;> omega, by omega⟩
  have B2 : Hid (Below w.heap.size w ((w1.alloc (.cells #[.slice (some ⟨w.heap.size, 0, none⟩) n n] 34)).alloc (.cells #[.int .i64 (-1), .slice none 0 0, .int .u16 (m : Nat), .func (.func 13) #[] #[.pointer (some ⟨w1.heap.size, 0, none⟩)], .int .i64 0, .string ⟨#[]⟩, .bool false] 42))) := (B1.out.alloc B1.out.size _).alloc (by have := B1.out.size; simp; omega) _
  have hz : w.heap.size ≤ w1.heap.size := B1.out.size
  clear hib
  go_wp2_with fail
  refine (reset_any (w1.heap.size + 1) w1.heap.size (some ⟨w.heap.size, 0, none⟩) n m (-1) 0 _ _ H2.out).mono ?_
  rintro e w3 ⟨rfl, h3, o3⟩
  have H3 := Go.Lib.hid h3
  have B3 : Hid (Below w.heap.size w w3) := B2.out.trans (o3.below (by omega) B2.out.size)
  clear h3 o3
  go_wp2_with fail
  go_returns
  exact ⟨_, _, _, rfl, by omega, H3.out, B3.out⟩

def runP (n m : Int) : List Int → Int × Int → Int × Int
  | [], p => p
  | x :: xs, p => runP n m xs (nxtS n m p.1 p.2 x, nxtF n m p.1 p.2 x)

theorem runP_step (n m : Int) (zs : List Int) (j : Nat) (hj : j < zs.length) (p : Int × Int) : runP n m (zs.drop j) p = runP n m (zs.drop (j + 1)) (nxtS n m p.1 p.2 (nth zs j), nxtF n m p.1 p.2 (nth zs j)) := by
  rw [List.drop_eq_getElem_cons hj, nth_eq zs j hj]; rfl

def Steps (zs : List Int) : Prop := ∀ j, j < zs.length → nth zs j = 1 ∨ nth zs j = 2 ∨ nth zs j = 3

def ShownPost (R : Int × Int) (w : World) (e : Ending) (w' : World) : Prop := e = .returned (.tuple #[.int .i64 R.1, .int .i64 R.2]) ∧ Below w.heap.size w w'

set_option maxRecDepth 100000 in
set_option maxHeartbeats 4000000 in
theorem shown_any (n m : Nat) (a : Option Addr) (cap : Nat) (zs : List Int) (w : World) (hn : 1 ≤ n) (hn2 : n ≤ 40) (hm : 1 ≤ m) (hm2 : m ≤ 20) (hi : IsInts .u8 w a zs) (hs : Steps zs) (hl : zs.length ≤ 1000) :
    Calls Try.prog 5 #[.int .i64 (n : Nat), .int .i64 (m : Nat), .slice a zs.length cap] w (ShownPost (runP n m zs (-1, 0)) w) := by
  obtain ⟨R, hR⟩ : ∃ R, R = runP n m zs (-1, 0) := ⟨_, rfl⟩
  rw [← hR]
  have HR := Go.Lib.hid hR
  have HI := Go.Lib.hid hi
  have HS := Go.Lib.hid hs
  clear hR hi hs
  go_enter Try.func5, Try.ntmps5
  go_wp2_with fail
  refine (manager_any n m w hn hn2 hm hm2).mono ?_
  rintro e w1 hP
  obtain ⟨cb, ib, A, rfl, hcb, h1, b1⟩ := hP
  have H1 := Go.Lib.hid h1
  have B1 := Go.Lib.hid b1
  clear h1 b1
  go_wp2_with fail
  go_loopw [18] (fun i wr => ∃ (j : Nat) (sel frm : Int), j ≤ zs.length ∧ i = .int .i64 j ∧ Hid (runP n m (zs.drop j) (sel, frm) = R ∧ Good n m sel frm ∧ CM wr cb ib A n m sel frm (.slice A n n) ∧ Below w.heap.size w wr)) (fun i _ => zs.length - (intOf i).toNat)
  case atStart => exact ⟨0, -1, 0, Nat.zero_le _, rfl, by rw [List.drop_zero]; exact HR.out.symm, ⟨by omega, by omega, by omega, by omega, fun _ => rfl, fun h => by omega⟩, H1.out, B1.out⟩
  case round =>
    obtain ⟨j, sel, frm, hj, rfl, HX⟩ := hrel
    by_cases hlt : j < zs.length
    · obtain ⟨hrun, hgood, hcm, hbel⟩ := HX.out
      rcases HI.out.below hbel with h0 | ⟨b, off, rfl, hbl, hc⟩
      · rw [h0] at hlt; simp at hlt
      have cj := hc j hlt
      rw [runP_step _ _ zs j hlt] at hrun
      have HN := Go.Lib.hid (HS.out j hlt)
      have HRUN := Go.Lib.hid hrun
      have HG := Go.Lib.hid hgood
      have HC := Go.Lib.hid hcm
      have HB := Go.Lib.hid hbel
      generalize nth zs j = s at cj HN HRUN
      clear hrun hgood hcm hbel hc
      have hj0 : (0 : Int) ≤ j := by omega
      have hj1 : (j : Int) < zs.length := by omega
      go_wp2_with fail
      refine (choose_any cb ib A n m sel frm s wr HC.out hn hn2 hm hm2 HG.out HN.out).mono ?_
      rintro e w2 ⟨rfl, h2, o2⟩
      have H2 := Go.Lib.hid h2
      have B2 : Hid (Below w.heap.size w w2) := HB.out.trans (o2.below hcb HB.out.size)
      have HG2 := Go.Lib.hid (Good.next (s := s) (by omega) (by omega) (by omega) HG.out)
      clear h2 o2
      go_wp2_with fail
      go_roundw
      case rel => exact ⟨j + 1, _, _, by omega, by go_num, HRUN.out, HG2.out, H2.out, B2.out⟩
      case measure => simp [intOf]; omega
    · obtain ⟨hrun, hgood, hcm, hbel⟩ := HX.out
      rw [List.drop_of_length_le (by omega)] at hrun
      have HRUN : Hid ((sel, frm) = R) := hrun
      have HC := Go.Lib.hid hcm
      have HB := Go.Lib.hid hbel
      clear hrun hgood hcm hbel
      have hj1 : ¬ (j : Int) < zs.length := by omega
      go_wp2_with fail
      refine (place_any cb ib A n m sel frm _ wr HC.out).mono ?_
      rintro e w2 ⟨rfl, q, rfl⟩
      go_wp2_with fail
      go_returns
      exact ⟨by rw [← HRUN.out]; rfl, below_drewN HB.out _⟩

theorem choose_spec (n m : Nat) (sel frm s : Int) (w : World) (hn : 1 ≤ n) (hn2 : n ≤ 40) (hg : Good n m sel frm) (hs : s = 1 ∨ s = 2 ∨ s = 3) :
    Calls Try.prog 11 #[.int .i64 sel, .int .i64 (n : Nat), .int .u8 s] w fun e w' => e = .returned (.int .i64 (nxtS n m sel frm s)) ∧ w = w' := by
  obtain ⟨g1, g2, -⟩ := hg
  rcases hs with rfl | rfl | rfl
  · obtain ⟨p, hp⟩ : ∃ p : Int, p = sel + 1 := ⟨_, rfl⟩
    have hw : IntKind.i64.wrap (sel + 1) = p := by rw [hp]; exact IntWalk.i64_in _ (by omega)
    by_cases e : p < n
    · have r : nxtS n m sel frm 1 = p := by unfold nxtS; rw [if_pos rfl, if_neg (by omega), hp]
      rw [r]
      clear hp r
      go_enter Try.func11, Try.ntmps11
      go_wp2_with fail
      go_returns
      exact ⟨rfl, rfl⟩
    · have r : nxtS n m sel frm 1 = -1 := by unfold nxtS; rw [if_pos rfl, if_pos (by omega)]
      rw [r]
      clear hp r
      go_enter Try.func11, Try.ntmps11
      go_wp2_with fail
      go_returns
      exact ⟨rfl, rfl⟩
  · by_cases e : sel < 0
    · obtain ⟨p, hp⟩ : ∃ p : Int, p = (n : Int) - 1 := ⟨_, rfl⟩
      have hw : IntKind.i64.wrap ((n : Int) - 1) = p := by rw [hp]; exact IntWalk.i64_in _ (by omega)
      have r : nxtS n m sel frm 2 = p := by unfold nxtS; rw [if_neg (by omega), if_pos rfl, if_pos e, hp]
      rw [r]
      clear hp r
      go_enter Try.func11, Try.ntmps11
      go_wp2_with fail
      go_returns
      exact ⟨rfl, rfl⟩
    · obtain ⟨p, hp⟩ : ∃ p : Int, p = sel - 1 := ⟨_, rfl⟩
      have hw : IntKind.i64.wrap (sel - 1) = p := by rw [hp]; exact IntWalk.i64_in _ (by omega)
      have r : nxtS n m sel frm 2 = p := by unfold nxtS; rw [if_neg (by omega), if_pos rfl, if_neg e, hp]
      rw [r]
      clear hp r
      go_enter Try.func11, Try.ntmps11
      go_wp2_with fail
      go_returns
      exact ⟨rfl, rfl⟩
  · have r : nxtS n m sel frm 3 = -1 := by unfold nxtS; rw [if_neg (by omega), if_neg (by omega)]
    rw [r]
    go_enter Try.func11, Try.ntmps11
    go_wp2_with fail
    go_returns
    exact ⟨rfl, rfl⟩
end Go.Proofs.Ytmjgcfghejjleaa
