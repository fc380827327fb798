/- laws.FnChosenRound. -/
import Derived.Test.YtmjgcfghejjleaaChosenRound
namespace Go.Proofs.Ytmjgcfghejjleaa
open Go.RowKit
set_option linter.unusedVariables false
set_option linter.unusedSimpArgs false

theorem out_next (n m : Nat) : ∀ (r j : Nat) (f : Int), j + r = n + 1 → ∀ i, i < r → (outP n m (List.replicate r 1) ((j : Int) - 1, f))[i]? = some (if j + i < n then ((j + i : Nat) : Int) else -1)
  | 0, _, _, _, i, hi => by omega
  | r + 1, j, f, h, 0, _ => by
    show some (nxtS n m ((j : Int) - 1) f 1) = _
    unfold nxtS
    rw [if_pos rfl]
    congr 1
    split <;> split <;> omega
  | r + 1, j, f, h, i + 1, hi => by
    have e : nxtS n m ((j : Int) - 1) f 1 = ((j + 1 : Nat) : Int) - 1 := by
      unfold nxtS
      rw [if_pos rfl, if_neg (by omega)]; omega
    show (outP n m (List.replicate r 1) (nxtS n m ((j : Int) - 1) f 1, nxtF n m ((j : Int) - 1) f 1))[i]? = _
    rw [e, out_next n m r (j + 1) _ (by omega) i (by omega), show j + 1 + i = j + (i + 1) by omega]

theorem out_back (n m : Nat) (hn : 1 ≤ n) : ∀ (r j : Nat) (f : Int), j + r = n + 1 → ∀ i, i < r → (outP n m (List.replicate r 2) ((if j = 0 then -1 else (n : Int) - j), f))[i]? = some ((n : Int) - 1 - (j + i : Nat))
  | 0, _, _, _, i, hi => by omega
  | r + 1, j, f, h, 0, _ => by
    show some (nxtS n m (if j = 0 then -1 else (n : Int) - j) f 2) = _
    unfold nxtS
    rw [if_neg (by omega), if_pos rfl]
    congr 1
    repeat' split
    all_goals omega
  | r + 1, j, f, h, i + 1, hi => by
    have e : nxtS n m (if j = 0 then -1 else (n : Int) - j) f 2 = (if j + 1 = 0 then -1 else (n : Int) - (j + 1 : Nat)) := by
      unfold nxtS
      rw [if_neg (by omega), if_pos rfl]
      repeat' split
      all_goals omega
    show (outP n m (List.replicate r 2) (nxtS n m (if j = 0 then -1 else (n : Int) - j) f 2, nxtF n m (if j = 0 then -1 else (n : Int) - j) f 2))[i]? = _
    rw [e, out_back n m hn r (j + 1) _ (by omega) i (by omega), show j + 1 + i = j + (i + 1) by omega]

def u8s (j : Nat) (x : Int) : List Value := List.replicate j (.int .u8 x)
theorem u8s_more (j : Nat) (x : Int) : u8s (j + 1) x = u8s j x ++ [.int .u8 x] := List.replicate_succ'
/-- Two rows of steps that the call owns, apart. -/
def TwoR (w : World) (j : Nat) (v7 v8 : Value) (wr : World) : Prop :=
  wr.ownsRow w.heap.size 5 1 v7 j (u8s j 1) ∧ wr.ownsRow w.heap.size 5 1 v8 j (u8s j 2) ∧ (∀ g, v7.ownBlock = some g → v8.ownBlock ≠ some g) ∧ Below w.heap.size w wr

theorem two_more {w wr w3 w5 : World} {j g2 c2 g4 c4 : Nat} {v7 v8 : Value} {o o' : Obj} (h : TwoR w j v7 v8 wr)
    (h3 : w3.ownsRow w.heap.size 5 1 (.slice (some ⟨g2, 0, none⟩) (j + 1) c2) (j + 1) (u8s j 1 ++ [.int .u8 1])) (hg3 : (wr.alloc o).grownBy w3 v7.ownBlock) (ho3 : v7.ownBlock = some g2 ∨ g2 = wr.heap.size + 1) (hl3 : g2 < w3.heap.size)
    (h5 : w5.ownsRow w.heap.size 5 1 (.slice (some ⟨g4, 0, none⟩) (j + 1) c4) (j + 1) (u8s j 2 ++ [.int .u8 2])) (hg5 : (w3.alloc o').grownBy w5 v8.ownBlock) (ho5 : v8.ownBlock = some g4 ∨ g4 = w3.heap.size + 1) :
    TwoR w (j + 1) (.slice (some ⟨g2, 0, none⟩) (j + 1) c2) (.slice (some ⟨g4, 0, none⟩) (j + 1) c4) w5 := by
  obtain ⟨q7, q8, hne, hb⟩ := h
  have l7 := q7.lt
  have l8 := q8.lt
  have z0 := hb.size
  have z1 : wr.heap.size + 1 ≤ w3.heap.size := by have := hg3.size; simpa using this
  have e28 : v8.ownBlock ≠ some g2 := fun e => by
    rcases ho3 with e' | e'
    · exact hne g2 e' e
    · have := (l8 g2 e).2; omega
  refine ⟨?_, ?_, fun g hg => ?_, ?_⟩
  · rw [u8s_more]
    exact ownsRow_blocks (h3.alloc o') fun k hk hk2 hk3 => hg5.block k hk2 (fun e => e28 (by rw [← e, ← hk3]; rfl))
  · rw [u8s_more]; exact h5
  · obtain rfl : g2 = g := by simpa [Value.ownBlock] using hg
    intro e
    obtain rfl : g4 = g2 := by simpa [Value.ownBlock] using e
    rcases ho5 with e' | e'
    · exact e28 e'
    · omega
  · exact ((hb.alloc (by omega) o).grown hg3 (by simp; omega) (fun k hk => (l7 k hk).1)).alloc (by omega) o' |>.grown hg5 (by simp; omega) (fun k hk => (l8 k hk).1)

namespace fnChosenRound
def Post (w : World) (e : Ending) (w' : World) : Prop := e = .returned (.bool true) ∧ Below w.heap.size w w'

set_option maxRecDepth 100000 in
set_option maxHeartbeats 4000000 in
theorem walk (many most : Int) (w : World) (h1 : (Lit.int .u8 many).wf = true) (h2 : (Lit.int .u8 most).wf = true) :
    Calls Try.prog 4 #[.int .u8 many, .int .u8 most] w fun e w' => e = .returned (.bool true) ∧ Below w.heap.size w w' := by
  show Calls _ _ _ _ (Post w)
  obtain ⟨ib, hib, hz0, hz1, hz2⟩ := info_parts (show (Try.prog.info? 5).map (fun i => (i.zero, i.size, i.bytes)) = some (some (.int .u8 0), 1, 1) by kernel_rfl)
  have hb1 := Go.bounds_u8 h1
  have hb2 := Go.bounds_u8 h2
  obtain ⟨n, hn⟩ : ∃ n : Nat, many % 40 + 1 = (n : Int) := ⟨(many % 40 + 1).toNat, by omega⟩
  obtain ⟨m, hm⟩ : ∃ n : Nat, most % 20 + 1 = (n : Int) := ⟨(most % 20 + 1).toNat, by omega⟩
  have n1 : 1 ≤ n := by omega
  have n2 : n ≤ 40 := by omega
  have m1 : 1 ≤ m := by omega
  have m2 : m ≤ 20 := by omega
  have HN := Go.Lib.hid hn
  have HM := Go.Lib.hid hm
  clear h1 h2 hn hm
  go_enter Try.func4, Try.ntmps4
  go_wp2_with fail
  rw [HN.out, HM.out]
  obtain ⟨L, hL⟩ : ∃ L, L = n + 1 := ⟨_, rfl⟩
  have HL := Go.Lib.hid hL
  have hwL : IntKind.i64.wrap ((n : Int) + 1) = (L : Int) := by rw [hL]; exact IntWalk.i64_in _ (by omega)
  have hLn : (n : Int) < L := by omega
  have hL0 : 0 < L := by omega
  clear hL
  go_loopw [7, 8, 9] (fun s7 s8 i wr => ∃ (j : Nat) (v7 v8 : Value), v7 = s7 ∧ v8 = s8 ∧ j ≤ L ∧ i = .int .i64 j ∧ Hid (TwoR w j v7 v8 wr)) (fun _ _ i _ => L - (intOf i).toNat)
  case atStart => exact ⟨0, _, _, rfl, rfl, Nat.zero_le _, rfl, World.ownsRow_nil _ _ _ _, World.ownsRow_nil _ _ _ _, (fun g hg => by simp [Value.ownBlock] at hg), Below.refl _ _⟩
  case round =>
    obtain ⟨j, v7, v8, rfl, rfl, hj, rfl, HT⟩ := hrel
    by_cases hlt : (j : Int) ≤ n
    · have HO5 := Go.Lib.hid (HT.out.1.alloc (.cells #[.int .u8 1] 5))
      have HO6 := Go.Lib.hid (HT.out.2.1.alloc (.cells #[.int .u8 1] 5))
      have HN5 := Go.Lib.hid (news_one wr (.int .u8 1) 5)
      have hwz := HT.out.2.2.2.size
      have hne := HT.out.2.2.1
      have hjl : j < L := by omega
      go_wp2_with (at_builtin; refine wpList_append_lies _ rfl _ _ 22 rfl w.heap.size 5 ib _ 1 1 Try.underlying22 hib hz0 hz1 hz2 rfl (by decide) v7 j _ rfl HO5.out ⟨wr.heap.size, 0, none⟩ 1 1 [.int .u8 1] rfl rfl HN5.out (by simp [Value.oneCell']) (by decide) ?c1 ?c2 ?c3 _ rfl ?_)
      case c1 => unfold maxLen; omega
      case c2 => omega
      case c3 => simp; omega
      intro g2 cap2 w3 hown3 hgrow3 hor3 hg2
      have H3 := Go.Lib.hid hown3
      have G3 := Go.Lib.hid hgrow3
      have OR3 := Go.Lib.hid hor3
      have z3 : w.heap.size ≤ w3.heap.size := by have := hgrow3.size; simp at this; omega
      have HO6' := Go.Lib.hid ((ownsRow_blocks HO6.out fun k hk hk2 hk3 => hgrow3.block k hk2 (fun e => hne k e.symm hk3)).alloc (.cells #[.int .u8 2] 5))
      have HN6 := Go.Lib.hid (news_one w3 (.int .u8 2) 5)
      clear hown3 hgrow3 hor3 hne
      go_wp2_with (at_builtin; refine wpList_append_lies _ rfl _ _ 22 rfl w.heap.size 5 ib _ 1 1 Try.underlying22 hib hz0 hz1 hz2 rfl (by decide) v8 j _ rfl HO6'.out ⟨w3.heap.size, 0, none⟩ 1 1 [.int .u8 2] rfl rfl HN6.out (by simp [Value.oneCell']) (by decide) ?c1 ?c2 ?c3 _ rfl ?_)
      case c1 => unfold maxLen; omega
      case c2 => omega
      case c3 => simp; omega
      intro g4 cap4 w5 hown5 hgrow5 hor5 hg4
      have HTN : Hid (TwoR w (j + 1) (.slice (some ⟨g2, 0, none⟩) (j + 1) cap2) (.slice (some ⟨g4, 0, none⟩) (j + 1) cap4) w5) := two_more HT.out H3.out G3.out OR3.out hg2 hown5 hgrow5 hor5
      clear hown5 hgrow5 hor5
      go_wp2_with fail
      go_roundw
      case rel => exact ⟨j + 1, _, _, rfl, rfl, by omega, by go_num, HTN.out⟩
      case measure => simp [intOf]; omega
    · obtain rfl : j = L := by have := HL.out; omega
      obtain ⟨q7, q8, -, hbw⟩ := HT.out
      obtain ⟨g7, c7, rfl, hg7, hl7, -, hc7⟩ := row_cells q7 hL0
      obtain ⟨g8, c8, rfl, hg8, hl8, -, hc8⟩ := row_cells q8 hL0
      have HBW := Go.Lib.hid hbw
      have i7 : IsInts .u8 wr (some ⟨g7, 0, none⟩) (List.replicate j 1) := .inr ⟨g7, 0, rfl, hl7, fun i hi => by
        rw [Nat.zero_add]
        simp at hi
        exact hc7 i _ (by simp [u8s, nth, hi])⟩
      have i8 : IsInts .u8 wr (some ⟨g8, 0, none⟩) (List.replicate j 2) := .inr ⟨g8, 0, rfl, hl8, fun i hi => by
        rw [Nat.zero_add]
        simp at hi
        exact hc8 i _ (by simp [u8s, nth, hi])⟩
      have HX : Hid (Calls Try.prog 7 #[.int .i64 (n : Nat), .int .i64 (m : Nat), .slice (some ⟨g7, 0, none⟩) j c7] wr (ChosenPost (outP n m (List.replicate j 1) (-1, 0)) wr)) := by
        have := chosen_any n m (some ⟨g7, 0, none⟩) c7 (List.replicate j 1) wr n1 n2 m1 m2 i7 (fun q hq => .inl (by simp at hq; simp [nth, hq])) (by have := HL.out; simp; omega)
        rwa [List.length_replicate] at this
      have HY : Hid (∀ W, Below wr.heap.size wr W → Calls Try.prog 7 #[.int .i64 (n : Nat), .int .i64 (m : Nat), .slice (some ⟨g8, 0, none⟩) j c8] W (ChosenPost (outP n m (List.replicate j 2) (-1, 0)) W)) := fun W hW => by
        have := chosen_any n m (some ⟨g8, 0, none⟩) c8 (List.replicate j 2) W n1 n2 m1 m2 (i8.below hW) (fun q hq => .inr (.inl (by simp at hq; simp [nth, hq]))) (by have := HL.out; simp; omega)
        rwa [List.length_replicate] at this
      clear q7 q8 hbw hc7 hc8 i7 i8 HT
      go_wp2_with fail
      refine HX.out.mono ?_
      rintro e w3 ⟨va, rfl, hoa, b3⟩
      rw [outP_length, List.length_replicate] at hoa
      obtain ⟨ga, ca, rfl, hga, hla, hca, hcella⟩ := row_cells hoa hL0
      have CA : Hid (∀ i, i < j → w3.cell? ⟨ga, i, none⟩ = some (.int .i64 (if i < n then (i : Int) else -1))) := fun i hi => by
        refine hcella i _ ?_
        have := out_next n m j 0 0 (by have := HL.out; omega) i hi
        simp only [Nat.zero_add, Int.natCast_zero, Int.zero_sub, show (((0 : Nat) : Int) - 1) = -1 by simp] at this
        simp only [ints, List.getElem?_map]
        rw [show ((-1 : Int), (0 : Int)) = ((-1 : Int), (0 : Int)) from rfl, this]; rfl
      have B3 := Go.Lib.hid b3
      clear hoa hcella b3
      go_wp2_with fail
      refine (HY.out _ B3.out).mono ?_
      rintro e w4 ⟨vb, rfl, hob, b4⟩
      rw [outP_length, List.length_replicate] at hob
      obtain ⟨gb, cb, rfl, hgb, hlb, hcb, hcellb⟩ := row_cells hob hL0
      have CB : Hid (∀ i, i < j → w4.cell? ⟨gb, i, none⟩ = some (.int .i64 ((n : Int) - 1 - (i : Nat)))) := fun i hi => by
        refine hcellb i _ ?_
        have := out_back n m n1 j 0 0 (by have := HL.out; omega) i hi
        simp only [Nat.zero_add, if_true] at this
        simp only [ints, List.getElem?_map]
        rw [this]; rfl
      have CA4 : Hid (∀ i, i < j → w4.cell? ⟨ga, i, none⟩ = some (.int .i64 (if i < n then (i : Int) else -1))) := fun i hi => (b4.cell (p := ⟨ga, i, none⟩) hla).trans (CA.out i hi)
      have B4 : Hid (Below w.heap.size w w4) := HBW.out.trans ((B3.out.mono HBW.out.size).trans (b4.mono (Nat.le_trans HBW.out.size B3.out.size)))
      clear hob hcellb b4
      go_wp2_with fail
      have hnj : n < j := by have := HL.out; omega
      obtain ⟨p, hp⟩ : ∃ p : Int, p = (n : Int) - 1 := ⟨_, rfl⟩
      have hwp : IntKind.i64.wrap ((n : Int) - 1) = p := by rw [hp]; exact IntWalk.i64_in _ (by omega)
      have HP := Go.Lib.hid hp
      clear hp hlt hj
      go_loop [12] (fun v => ∃ i : Nat, i ≤ n ∧ v = .int .i64 i) (fun v => n - (intOf v).toNat)
      case atStart => exact ⟨0, Nat.zero_le _, rfl⟩
      case round =>
        obtain ⟨i, hi, rfl⟩ := hrel
        by_cases hin : i < n
        · have x0 : w4.cell? ⟨ga, i, none⟩ = some (.int .i64 (i : Nat)) := by
            have := CA4.out i (by omega)
            rwa [if_pos hin] at this
          have y0 := CB.out i (by omega)
          obtain ⟨q, hq⟩ : ∃ q : Int, q = (n : Int) - 1 - (i : Nat) := ⟨_, rfl⟩
          rw [← hq] at y0
          have hwq : IntKind.i64.wrap (p - (i : Int)) = q := by rw [hq, HP.out]; exact IntWalk.i64_in _ (by omega)
          clear hq
          have hi0 : (0 : Int) ≤ i := by omega
          have hi1 : (i : Int) < n := by omega
          have hi2 : (i : Int) < j := by omega
          go_wp2_with fail
          go_round
          case rel => exact ⟨i + 1, by omega, by go_num⟩
          case measure => simp [intOf]; omega
        · obtain rfl : i = n := by omega
          have x0 : w4.cell? ⟨ga, i, none⟩ = some (.int .i64 (-1)) := by
            have := CA4.out i hnj
            rwa [if_neg (by omega)] at this
          have y0 : w4.cell? ⟨gb, i, none⟩ = some (.int .i64 (-1)) := by
            have := CB.out i hnj
            rwa [show (i : Int) - 1 - (i : Nat) = -1 by omega] at this
          have hi0 : (0 : Int) ≤ i := by omega
          have hi2 : (i : Int) < j := by omega
          go_wp2_with fail
          go_returns
          exact ⟨rfl, B4.out⟩
end fnChosenRound
end Go.Proofs.Ytmjgcfghejjleaa
