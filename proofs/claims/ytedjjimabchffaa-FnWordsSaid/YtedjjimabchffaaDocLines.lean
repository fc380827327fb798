/- spec.hasByte, spec.first, spec.Lines. -/
import Derived.Test.YtedjjimabchffaaDocSplit
import Derived.Deep.AppendLies
import Derived.Deep.RegionLaw
namespace Go.Proofs.Ytedjjimabchffaa
open Go.RowKit
set_option linter.unusedVariables false
set_option linter.unusedSimpArgs false

theorem has_yes (sd : ByteArray) (x : Int) (w : World) (hd : sd.size = 1) (hx : byteAt sd 0 = x) :
    Calls Try.prog 52 #[.string sd, .int .u8 x] w fun e w' => e = .returned (.bool true) ∧ w = w' := by
  have h0 : 0 < sd.size := by omega
  have hb := byteAt_lt sd 0 h0
  rw [hx] at hb
  have hc : ((sd[0].toNat : Int) == x) = true := by simp [hb]
  have HD := Go.Lib.hid hd
  clear hd hx hb
  go_enter Try.func52, Try.ntmps52
  go_wp2
  go_loop [5] (fun i => i = .int .i64 0) (fun i => 1 - (intOf i).toNat)
  case atStart => rfl
  case round =>
    obtain rfl := hrel
    have h0' : (0 : Int) < sd.size := by omega
    go_wp2_with fail
    go_returns
    exact ⟨rfl, rfl⟩

theorem has_no (sd : ByteArray) (x c : Int) (w : World) (hd : sd.size = 1) (hx : byteAt sd 0 = x) (hne : x ≠ c) :
    Calls Try.prog 52 #[.string sd, .int .u8 c] w fun e w' => e = .returned (.bool false) ∧ w = w' := by
  have h0 : 0 < sd.size := by omega
  have hb := byteAt_lt sd 0 h0
  rw [hx] at hb
  have hc : ((sd[0].toNat : Int) == c) = false := by rw [← hb]; simpa using hne
  have HD := Go.Lib.hid hd
  clear hd hx hb hne
  go_enter Try.func52, Try.ntmps52
  go_wp2
  go_loop [5] (fun i => ∃ k : Nat, k ≤ 1 ∧ i = .int .i64 k) (fun i => 1 - (intOf i).toNat)
  case atStart => exact ⟨0, by omega, rfl⟩
  case round =>
    obtain ⟨k, hk, rfl⟩ := hrel
    by_cases e : k = 0
    · obtain rfl := e
      have h0' : (0 : Int) < sd.size := by omega
      go_wp2_with fail
      go_round
      case rel => exact ⟨1, by omega, rfl⟩
      case measure => simp [intOf]
    · obtain rfl : k = 1 := by omega
      have h1' : ¬ (1 : Int) < sd.size := by have := HD.out; omega
      go_wp2_with fail
      go_returns
      exact ⟨rfl, rfl⟩

theorem first_any (s sd : ByteArray) (x : Int) (n : Bool) (w : World) (hs : s.size ≤ 1000) (hd : sd.size = 1) (hx : byteAt sd 0 = x) :
    Calls Try.prog 21 #[.string s, .string sd, .bool n] w fun e w' => e = .returned (.int .i64 (fst s (isB x n))) ∧ w = w' := by
  obtain ⟨res, hres⟩ : ∃ r, r = fst s (isB x n) := ⟨_, rfl⟩
  rw [← hres]
  have Hr := Go.Lib.hid hres
  have HD := Go.Lib.hid hd
  have HX := Go.Lib.hid hx
  clear hres hd hx
  go_enter Try.func21, Try.ntmps21
  go_wp2
  go_loop [7] (fun i => ∃ k : Nat, k ≤ s.size ∧ i = .int .i64 k ∧ Hid (res = fstB s (isB x n) (s.size - k))) (fun i => s.size - (intOf i).toNat)
  case atStart => exact ⟨0, Nat.zero_le _, rfl, Hr⟩
  case round =>
    obtain ⟨k, hk, rfl, HK⟩ := hrel
    by_cases hlt : k < s.size
    · have H2 := Go.Lib.hid (byteAt_lt s k hlt)
      by_cases hp : isB x n (byteAt s k) = true
      · have HF := Go.Lib.hid (fstB_yes s (isB x n) k hlt hp)
        unfold isB at hp
        by_cases hc : x = byteAt s k
        · have hn : n = false := by simpa [hc] using hp
          subst hn
          have hc' : x = (s[k].toNat : Int) := hc.trans H2.out
          have HC := Go.Lib.hid hc'
          clear hp hc hc'
          go_wp2_with fail
          rw [← HC.out]
          refine (has_yes sd x _ HD.out HX.out).mono ?_
          rintro e w1 ⟨rfl, rfl⟩
          go_wp2_with fail
          go_returns
          exact ⟨by rw [HK.out, HF.out]; rfl, rfl⟩
        · have hn : n = true := by rw [show (x == byteAt s k) = false from by simpa using hc] at hp; simpa using hp
          subst hn
          have HC := Go.Lib.hid (show x ≠ (s[k].toNat : Int) from fun e => hc (e.trans H2.out.symm))
          clear hp hc
          go_wp2_with fail
          refine (has_no sd x _ _ HD.out HX.out HC.out).mono ?_
          rintro e w1 ⟨rfl, rfl⟩
          go_wp2_with fail
          go_returns
          exact ⟨by rw [HK.out, HF.out]; rfl, rfl⟩
      · have hp' : isB x n (byteAt s k) = false := by simpa using hp
        have HF := Go.Lib.hid (fstB_no s (isB x n) k hlt hp')
        unfold isB at hp'
        clear hp
        by_cases hc : x = byteAt s k
        · have hn : n = true := by simpa [hc] using hp'
          subst hn
          have hc' : x = (s[k].toNat : Int) := hc.trans H2.out
          have HC := Go.Lib.hid hc'
          clear hp' hc hc'
          go_wp2_with fail
          rw [← HC.out]
          refine (has_yes sd x _ HD.out HX.out).mono ?_
          rintro e w1 ⟨rfl, rfl⟩
          go_wp2_with fail
          go_round
          case rel => exact ⟨k + 1, by omega, by go_num, HK.out.trans HF.out⟩
          case measure => simp [intOf]; omega
        · have hn : n = false := by rw [show (x == byteAt s k) = false from by simpa using hc] at hp'; simpa using hp'
          subst hn
          have HC := Go.Lib.hid (show x ≠ (s[k].toNat : Int) from fun e => hc (e.trans H2.out.symm))
          clear hp' hc
          go_wp2_with fail
          refine (has_no sd x _ _ HD.out HX.out HC.out).mono ?_
          rintro e w1 ⟨rfl, rfl⟩
          go_wp2_with fail
          go_round
          case rel => exact ⟨k + 1, by omega, by go_num, HK.out.trans HF.out⟩
          case measure => simp [intOf]; omega
    · have HF := Go.Lib.hid (fstB_end s (isB x n) k (by omega))
      go_wp2_with fail
      go_returns
      exact ⟨by rw [HK.out, HF.out]; rfl, rfl⟩

theorem first_none (s : ByteArray) (w : World) (hs : s.size ≤ 1000) (h : fst s isNl = -1) :
    Calls Try.prog 21 #[.string s, .string ⟨#[10]⟩, .bool false] w fun e w' => e = .returned (.int .i64 (-1)) ∧ w = w' := by
  have := first_any s ⟨#[10]⟩ 10 false w hs rfl (by decide)
  rwa [isB_nl, h] at this
theorem first_some (s : ByteArray) (m : Nat) (w : World) (hs : s.size ≤ 1000) (h : fst s isNl = m) :
    Calls Try.prog 21 #[.string s, .string ⟨#[10]⟩, .bool false] w fun e w' => e = .returned (.int .i64 (m : Nat)) ∧ w = w' := by
  have := first_any s ⟨#[10]⟩ 10 false w hs rfl (by decide)
  rwa [isB_nl, h] at this

set_option maxHeartbeats 1000000 in
theorem spec_lines (s : ByteArray) (w : World) (hs : s.size ≤ 1000) :
    Calls Try.prog 13 #[.string s] w (StrsPost (lines s) w) := by
  obtain ⟨ib, hib, hz0, hz1, hz2⟩ := info_parts (show (Try.prog.info? 9).map (fun i => (i.zero, i.size, i.bytes)) = some (some (.string ⟨#[]⟩), 1, 16) by kernel_rfl)
  go_enter Try.func13, Try.ntmps13
  go_wp2_with fail
  go_loopw [0, 3] (fun t0 t5 wr => ∃ (v : Value) (cur : ByteArray) (acc : List ByteArray), v = t5 ∧ t0 = .string cur ∧ acc.length + cur.size ≤ s.size ∧ wr.ownsRow w.heap.size 9 1 v acc.length (acc.map .string) ∧ Below w.heap.size w wr ∧ Hid (lines s = acc ++ lines cur)) (fun t0 _ _ => strSize t0)
  case atStart => exact ⟨_, s, [], rfl, rfl, by simp, World.ownsRow_nil _ _ _ _, Below.refl _ _, by simp [Hid]⟩
  case round =>
    obtain ⟨v, cur, acc, rfl, rfl, hsz, hown, hb, HL⟩ := hrel
    have hbs := hb.size
    rcases fst_spec cur isNl with ⟨hf, _⟩ | ⟨m, hm, hf, _⟩
    · have HF := Go.Lib.hid hf
      clear hf
      go_wp2_with fail
      refine (first_none cur _ (by omega) HF.out).mono ?_
      rintro e w1 ⟨rfl, rfl⟩
      go_wp2_with (at_builtin; refine wpList_append_own _ rfl _ _ 27 rfl w.heap.size 9 ib (.string ⟨#[]⟩) 1 16 Try.underlying27 hib hz0 hz1 hz2 rfl (by decide) v acc.length (acc.map .string) rfl (hown.alloc _) ⟨wr.heap.size, 0, none⟩ 1 1 [.string cur] rfl rfl (news_one _ _ _) (by simp [Value.oneCell']) ?c1 ?c2 ?c3 ?_)
      case c1 => unfold maxLen; omega
      case c2 => omega
      case c3 => simp; omega
      intro v2 w2 hown2 hgrow2 _
      have hb2 : Below w.heap.size w w2 := (hb.alloc hbs _).grown hgrow2 (by simp; omega) (fun j hj => (hown.lt j hj).1)
      have hown3 : w2.ownsRow w.heap.size 9 1 v2 (acc.length + 1) ((lines s).map .string) := by
        rw [HL.out, lines_one cur (by rw [HF.out]; decide)]
        simpa using hown2
      clear hgrow2 hown2 hown
      have H3 := Go.Lib.hid hown3
      clear hown3
      go_wp2_with fail
      go_returns
      obtain ⟨hl, g, cap, hv, hg, hS⟩ := strs_of_owns H3.out (by omega)
      exact ⟨g, cap, by rw [← hl]; exact congrArg Ending.returned hv, hg, hS, hb2⟩
    · have HF := Go.Lib.hid hf
      clear hf
      have hm0 : (m : Int) ≤ cur.size := by omega
      have hm1 : (m : Int) + 1 ≤ cur.size := by omega
      have hm00 : (0 : Int) ≤ m := by omega
      have hm10 : (0 : Int) ≤ (m : Int) + 1 := by omega
      have hwr : IntKind.i64.wrap ((m : Int) + 1) = (m : Int) + 1 := IntWalk.i64_in _ (by omega)
      have htn : ((m : Int) + 1).toNat = m + 1 := by omega
      have HST := Go.Lib.hid (split_step s cur m acc HL.out HF.out)
      go_wp2_with fail
      refine (first_some cur m _ (by omega) HF.out).mono ?_
      rintro e w1 ⟨rfl, rfl⟩
      go_wp2_with fail
      go_region_law ((refine step_append_lies _ (by rfl) _ _ _ (by rfl) w.heap.size 9 ib (.string ⟨#[]⟩) 1 16 Try.underlying27 hib hz0 hz1 hz2 rfl (by omega) v acc.length (acc.map .string) (by rfl) ((hown.alloc _).drew) ⟨wr.heap.size, 0, none⟩ 1 1 [.string (cur.extract 0 m)] (by rfl) (by rfl) (World.news_of_block (cs := #[.string (cur.extract 0 m)]) (t := 9) (fr := (0, 0)) (heap_alloc_new wr _)) (by simp [Value.oneCell']) (by omega) (by unfold maxLen; omega) (by omega) (by simp; omega) (wr.heap.size + 1) (by simp) ?_; intro gg cap w2 hown2 hgrow2 hat hlt))
      have hb2 : Below w.heap.size w w2 := (hb.alloc hbs _).drew.grown hgrow2 (by simp; omega) (fun j hj => (hown.lt j hj).1)
      have hown3 : w2.ownsRow w.heap.size 9 1 (.slice (some ⟨gg, 0, none⟩) (acc.length + 1) cap) (acc ++ [cur.extract 0 m]).length ((acc ++ [cur.extract 0 m]).map .string) := by simpa using hown2
      clear hgrow2 hown2 hown hwr htn hat
      go_simp
      go_wp2_with fail
      go_roundw
      case rel => exact ⟨_, cur.extract (m + 1) cur.size, acc ++ [cur.extract 0 m], rfl, rfl, by rw [ByteArray.size_extract]; simp; omega, hown3, hb2, HST.out⟩
      case measure => simp [strSize_string]; omega
end Go.Proofs.Ytedjjimabchffaa
