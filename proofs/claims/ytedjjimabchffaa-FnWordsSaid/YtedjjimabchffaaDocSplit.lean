/- goprompt's zzIndex and zzSplit at a line feed, Lines, LineCount: the lines of a text. -/
import Derived.Test.YtedjjimabchffaaDocBase
import Derived.Test.YtedjjimabchffaaLinesPlain
namespace Go.Proofs.Ytedjjimabchffaa
open Go.RowKit
set_option linter.unusedVariables false
set_option linter.unusedSimpArgs false

theorem news_one (w : World) (v : Value) (t : TypeId) : ∀ (j : Nat) (u : Value), [v][j]? = some u → (w.alloc (.cells #[v] t)).cell? ((⟨w.heap.size, 0, none⟩ : Addr).add j) = some u := by
  intro j u h
  match j, h with
  | 0, h => simp at h; subst h; simp [Addr.add]
  | j + 1, h => simp at h

/-- A text of a list; the empty one beyond. -/
def ln (ls : List ByteArray) (i : Nat) : ByteArray := ls.getD i ByteArray.empty
theorem ln_eq (ls : List ByteArray) (i : Nat) (h : i < ls.length) : ln ls i = ls[i] := by simp [ln, h]
theorem ln_mem (ls : List ByteArray) (i : Nat) (h : i < ls.length) : ln ls i ∈ ls := by rw [ln_eq ls i h]; exact List.getElem_mem _

/-- A list of texts in a block of its own. -/
def StrsAt (w : World) (g : Nat) (ls : List ByteArray) : Prop := g < w.heap.size ∧ ∀ i, i < ls.length → w.cell? ⟨g, i, none⟩ = some (.string (ln ls i))
theorem StrsAt.below {w w' : World} {g : Nat} {ls : List ByteArray} (h : StrsAt w g ls) (hb : Below w.heap.size w w') : StrsAt w' g ls :=
  ⟨Nat.lt_of_lt_of_le h.1 hb.size, fun i hi => (hb.cell (p := ⟨g, i, none⟩) h.1).trans (h.2 i hi)⟩

def StrsPost (ls : List ByteArray) (w : World) (e : Ending) (w' : World) : Prop :=
  ∃ g cap, e = .returned (.slice (some ⟨g, 0, none⟩) ls.length cap) ∧ w.heap.size ≤ g ∧ StrsAt w' g ls ∧ Below w.heap.size w w'

theorem strs_of_owns {W : World} {B T : Nat} {v : Value} {n : Nat} {ls : List ByteArray} (h : W.ownsRow B T 1 v n (ls.map .string)) (hn : 1 ≤ n) :
    n = ls.length ∧ ∃ g cap, v = .slice (some ⟨g, 0, none⟩) n cap ∧ B ≤ g ∧ StrsAt W g ls := by
  obtain ⟨hl, ho⟩ := h
  simp at hl
  refine ⟨hl.symm, ?_⟩
  rcases ho with ⟨_, h0⟩ | ⟨g, cap, cur, hv, hg, hh, hn1, hcm, hcs, htk⟩
  · omega
  · refine ⟨g, cap, hv, hg, ?_, fun j hj => ?_⟩
    · have := (Array.getElem?_eq_some_iff.1 hh).1
      exact this
    · rw [World.cell?, hh]
      have := congrArg (·[j]?) htk
      simp [List.getElem?_take_of_lt (show j < n by omega)] at this
      simp [this, ln, hj]

/-- The one byte at a place as a text. -/
theorem one_toList (s : ByteArray) (k : Nat) (h : k < s.size) : (s.extract k (k + 1)).toList = [s[k]] := by
  rw [ByteArray.toList_eq, extract_list]
  have h' : k < s.data.toList.length := by simpa using h
  rw [List.drop_eq_getElem_cons h', show k + 1 - k = 1 by omega, List.take_succ_cons, List.take_zero]
  simp; rfl

theorem index_nl (s : ByteArray) (w : World) (hs : s.size ≤ 1000) :
    Calls Try.prog 64 #[.string s, .string ⟨#[10]⟩] w fun e w' => e = .returned (.int .i64 (fst s isNl)) ∧ w = w' := by
  obtain ⟨res, hres⟩ : ∃ r, r = fst s isNl := ⟨_, rfl⟩
  rw [← hres]
  have Hr := Go.Lib.hid hres
  clear hres
  go_enter Try.func64, Try.ntmps64
  go_wp2
  go_loop [5] (fun i => ∃ k : Nat, k ≤ s.size ∧ i = .int .i64 k ∧ Hid (res = fstB s isNl (s.size - k))) (fun i => s.size - (intOf i).toNat)
  case atStart => exact ⟨0, Nat.zero_le _, rfl, Hr⟩
  case round =>
    obtain ⟨k, hk, rfl, HK⟩ := hrel
    by_cases hlt : k < s.size
    · have hle : (k : Int) + 1 ≤ (s.size : Int) := by omega
      have H1 := Go.Lib.hid (one_toList s k hlt)
      have H2 := Go.Lib.hid (byteAt_lt s k hlt)
      by_cases c : isNl (byteAt s k) = true
      · have hb : s[k] = 10 := by
          have := H2.out
          unfold isNl at c
          rw [this] at c
          have h10 : s[k].toNat = 10 := by simp at c; omega
          exact UInt8.toNat_inj.1 h10
        have ht : ((s.extract k (k + 1)).toList == [10]) = true := by rw [H1.out, hb]; rfl
        have HF := Go.Lib.hid (fstB_yes s isNl k hlt c)
        clear c hb
        go_wp2_with fail
        go_returns
        exact ⟨by rw [HK.out, HF.out]; rfl, rfl⟩
      · have c' : isNl (byteAt s k) = false := by simpa using c
        have ht : ((s.extract k (k + 1)).toList == [10]) = false := by
          rw [H1.out]
          have := H2.out
          unfold isNl at c'
          rw [this] at c'
          by_cases e : s[k] = 10
          · rw [e] at c'; simp at c'
          · simp [e]
        have HF := Go.Lib.hid (fstB_no s isNl k hlt c')
        clear c c'
        go_wp2_with fail
        go_round
        case rel => exact ⟨k + 1, by omega, by go_num, HK.out.trans HF.out⟩
        case measure => simp [intOf]; omega
    · have hgt : ¬ (k : Int) + 1 ≤ (s.size : Int) := by omega
      have HF := Go.Lib.hid (fstB_end s isNl k (by omega))
      go_wp2_with fail
      go_returns
      exact ⟨by rw [HK.out, HF.out]; rfl, rfl⟩

theorem index_none (s : ByteArray) (w : World) (hs : s.size ≤ 1000) (h : fst s isNl = -1) :
    Calls Try.prog 64 #[.string s, .string ⟨#[10]⟩] w fun e w' => e = .returned (.int .i64 (-1)) ∧ w = w' := by
  have := index_nl s w hs
  rwa [h] at this
theorem index_some (s : ByteArray) (m : Nat) (w : World) (hs : s.size ≤ 1000) (h : fst s isNl = m) :
    Calls Try.prog 64 #[.string s, .string ⟨#[10]⟩] w fun e w' => e = .returned (.int .i64 (m : Nat)) ∧ w = w' := by
  have := index_nl s w hs
  rwa [h] at this

def strSize : Value → Nat
  | .string c => c.size
  | _ => 0
theorem strSize_string (c : ByteArray) : strSize (.string c) = c.size := rfl

theorem split_step (s cur : ByteArray) (m : Nat) (acc : List ByteArray) (h : lines s = acc ++ lines cur) (hm : fst cur isNl = m) :
    lines s = (acc ++ [cur.extract 0 m]) ++ lines (cur.extract (m + 1) cur.size) := by
  rw [h, lines_more cur m hm]; simp

set_option maxRecDepth 100000 in
set_option maxHeartbeats 1000000 in
theorem split_nl (s : ByteArray) (w : World) (hs : s.size ≤ 1000) :
    Calls Try.prog 56 #[.string s, .string ⟨#[10]⟩] w (StrsPost (lines s) w) := by
  obtain ⟨ib, hib, hz0, hz1, hz2⟩ := info_parts (show (Try.prog.info? 9).map (fun i => (i.zero, i.size, i.bytes)) = some (some (.string ⟨#[]⟩), 1, 16) by kernel_rfl)
  go_enter Try.func56, Try.ntmps56
  go_wp2_with fail
  go_loopw [0, 5] (fun t0 t5 wr => ∃ (v : Value) (cur : ByteArray) (acc : List ByteArray), v = t5 ∧ t0 = .string cur ∧ acc.length + cur.size ≤ s.size ∧ wr.ownsRow w.heap.size 9 1 v acc.length (acc.map .string) ∧ Below w.heap.size w wr ∧ Hid (lines s = acc ++ lines cur)) (fun t0 _ _ => strSize t0)
  case atStart => exact ⟨_, s, [], rfl, rfl, by simp, World.ownsRow_nil _ _ _ _, Below.refl _ _, by simp [Hid]⟩
  case round =>
    obtain ⟨v, cur, acc, rfl, rfl, hsz, hown, hb, HL⟩ := hrel
    have hbs := hb.size
    rcases fst_spec cur isNl with ⟨hf, _⟩ | ⟨m, hm, hf, _⟩
    · have HF := Go.Lib.hid hf
      clear hf
      go_wp2_with fail
      refine (index_none cur _ (by omega) HF.out).mono ?_
      rintro e w1 ⟨rfl, rfl⟩
      go_wp2_with (at_builtin; refine wpList_append_own _ rfl _ _ 27 rfl w.heap.size 9 ib (.string ⟨#[]⟩) 1 16 Try.underlying27 hib hz0 hz1 hz2 rfl (by decide) v acc.length (acc.map .string) rfl (hown.alloc _) ⟨wr.heap.size, 0, none⟩ 1 1 [.string cur] rfl rfl (news_one _ _ _) (by simp [Value.oneCell']) ?c1 ?c2 ?c3 ?_)
      case c1 => unfold maxLen; omega
      case c2 => omega
      case c3 => simp; omega
      intro v2 w2 hown2 hgrow2 _
      have hb2 : Below w.heap.size w w2 := (hb.alloc hbs _).grown hgrow2 (by simp; omega) (fun j hj => (hown.lt j hj).1)
      have hown3 : w2.ownsRow w.heap.size 9 1 v2 (acc.length + 1) ((lines s).map .string) := by
        rw [HL.out, lines_one cur (by rw [HF.out]; decide)]
        simpa using hown2
      clear hgrow2 hown2 hown
      have H3 := Go.Lib.hid hown3
      clear hown3
      go_wp2_with fail
      go_returns
      obtain ⟨hl, g, cap, hv, hg, hS⟩ := strs_of_owns H3.out (by omega)
      exact ⟨g, cap, by rw [← hl]; exact congrArg Ending.returned hv, hg, hS, hb2⟩
    · have HF := Go.Lib.hid hf
      clear hf
      have hm0 : (m : Int) ≤ cur.size := by omega
      have hm1 : (m : Int) + 1 ≤ cur.size := by omega
      have HST := Go.Lib.hid (split_step s cur m acc HL.out HF.out)
      go_wp2_with fail
      refine (index_some cur m _ (by omega) HF.out).mono ?_
      rintro e w1 ⟨rfl, rfl⟩
      go_wp2_with (at_builtin; refine wpList_append_own _ rfl _ _ 27 rfl w.heap.size 9 ib (.string ⟨#[]⟩) 1 16 Try.underlying27 hib hz0 hz1 hz2 rfl (by decide) v acc.length (acc.map .string) rfl (hown.alloc _) ⟨wr.heap.size, 0, none⟩ 1 1 [.string (cur.extract 0 m)] rfl rfl (news_one _ _ _) (by simp [Value.oneCell']) ?c1 ?c2 ?c3 ?_)
      case c1 => unfold maxLen; omega
      case c2 => omega
      case c3 => simp; omega
      intro v2 w2 hown2 hgrow2 _
      have hb2 : Below w.heap.size w w2 := (hb.alloc hbs _).grown hgrow2 (by simp; omega) (fun j hj => (hown.lt j hj).1)
      have hown3 : w2.ownsRow w.heap.size 9 1 v2 (acc ++ [cur.extract 0 m]).length ((acc ++ [cur.extract 0 m]).map .string) := by simpa using hown2
      clear hgrow2 hown2 hown
      go_wp2_with fail
      go_roundw
      case rel => exact ⟨v2, cur.extract (m + 1) cur.size, acc ++ [cur.extract 0 m], rfl, rfl, by rw [ByteArray.size_extract]; simp; omega, hown3, hb2, HST.out⟩
      case measure => simp [strSize_string]; omega

theorem lines_any (b : Nat) (s : ByteArray) (k : Nat) (w : World) (hd : DocAt w b s k) (hs : s.size ≤ 1000) :
    Calls Try.prog 36 #[.pointer (some ⟨b, 0, none⟩)] w (StrsPost (lines s) w) := by
  obtain ⟨c0, c1, hb⟩ := hd
  go_enter Try.func36, Try.ntmps36
  go_wp2_with fail
  refine (split_nl s w hs).mono ?_
  rintro e w1 ⟨g, cap, rfl, hg, hS, hb1⟩
  have HS := Go.Lib.hid hS
  clear hS
  go_wp2_with fail
  go_returns
  exact ⟨g, cap, rfl, hg, HS.out, hb1⟩

theorem line_count (b : Nat) (s : ByteArray) (k : Nat) (w : World) (hd : DocAt w b s k) (hs : s.size ≤ 1000) :
    Calls Try.prog 57 #[.pointer (some ⟨b, 0, none⟩)] w fun e w' => e = .returned (.int .i64 ((lines s).length : Nat)) ∧ Below w.heap.size w w' := by
  go_enter Try.func57, Try.ntmps57
  go_wp2_with fail
  refine (lines_any b s k w hd hs).mono ?_
  rintro e w1 ⟨g, cap, rfl, hg, hS, hb1⟩
  clear hS
  go_wp2_with fail
  go_returns
  exact ⟨rfl, hb1⟩
/-- A byte, or (not) any other one. -/
def isB (x : Int) (not : Bool) (c : Int) : Bool := (x == c) != not
theorem isB_nl : isB 10 false = isNl := by funext c; unfold isB isNl; rw [Bool.eq_iff_iff]; simp; omega
end Go.Proofs.Ytedjjimabchffaa
