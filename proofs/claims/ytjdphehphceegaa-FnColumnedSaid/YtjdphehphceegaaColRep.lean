/- goprompt.zzReplaceAll of one byte by nothing; deleteBreakLineCharacters. -/
import Derived.Test.YtjdphehphceegaaVtRow
import Derived.Test.YtjdphehphceegaaAsciiText
import Derived.Laws.IdiomStrings
import Derived.Laws.BytesArg
namespace Go.Proofs.Ytjdphehphceegaa
open Go.RowKit
set_option linter.unusedVariables false
set_option linter.unusedSimpArgs false

def numsB (l : List UInt8) : List Int := l.map fun b => (b.toNat : Int)
/-- A text without a byte. -/
def dropL (c : UInt8) (l : List UInt8) : List UInt8 := l.filter fun b => b != c
def dropB (c : UInt8) (s : ByteArray) : ByteArray := ⟨(dropL c s.data.toList).toArray⟩
theorem dropL_step (c : UInt8) (s : ByteArray) (j : Nat) (h : j < s.size) : dropL c (s.data.toList.take (j + 1)) = dropL c (s.data.toList.take j) ++ (if s[j] = c then [] else [s[j]]) := by
  have h' : j < s.data.toList.length := by simpa using h
  have e : s.data.toList.take (j + 1) = s.data.toList.take j ++ [s[j]] := by
    rw [List.take_succ_eq_append_getElem h']
    rfl
  rw [e]
  unfold dropL
  rw [List.filter_append]
  congr 1
  by_cases hc : s[j] = c
  · rw [if_pos hc]; simp [hc]
  · rw [if_neg hc]; simp [hc]

theorem one_list (s : ByteArray) (k : Nat) (h : k < s.size) : (s.extract k (k + 1)).toList = [s[k]] := by
  rw [ByteArray.toList_eq, extract_list]
  have h' : k < s.data.toList.length := by simpa using h
  rw [List.drop_eq_getElem_cons h', show k + 1 - k = 1 by omega, List.take_succ_cons, List.take_zero]
  simp; rfl

theorem append_empty (W : World) (A : Option Addr) (n c : Nat) (h : n ≤ c) : (Builtin.append_ #[43, 9] 43 #[.slice A n c, .string ⟨#[]⟩]).run Try.prog W = .ok (.slice A n c) W := by
  have h1 := Try.underlying43
  have h2 := Try.underlying9
  have h3 : (sizeOf 5).run Try.prog W = .ok 1 W := by kernel_rfl
  cases A <;> simp [Builtin.append_, run_underlying h1, run_underlying h2, h3, Result.andThen, Builtin.lenOf, Builtin.firstCells, storeCells, h, show ({ data := #[] } : ByteArray).size = 0 from rfl]

theorem numsB_append (a b : List UInt8) : numsB (a ++ b) = numsB a ++ numsB b := by simp [numsB]
theorem brow_len {w : World} {base : Nat} {A : Option Addr} {cap : Nat} {l : List Int} (h : BRow w base A cap l) : l.length ≤ cap := by
  rcases h.own with ⟨_, h2, h3⟩ | ⟨g, _, _, _, _, h5, _⟩
  · rw [h3]; simp
  · exact h5
theorem brow_text {w : World} {base : Nat} {A : Option Addr} {cap : Nat} {l : List UInt8} (h : BRow w base A cap (numsB l)) : (convert 43 9 (.slice A (numsB l).length cap)).run Try.prog w = .ok (.string ⟨l.toArray⟩) w := by
  rw [show (numsB l).length = l.length by simp [numsB]]
  rcases h.own with ⟨rfl, rfl, e⟩ | ⟨g, rfl, _, _, _, _, hc⟩
  · obtain rfl : l = [] := by simpa [numsB] using e
    exact run_convert_bytes_nil (P := Try.prog) w 43 5 Try.underlying43 Try.underlying5 0 0 9 Try.underlying9
  · exact run_convert_bytes_back (P := Try.prog) w 43 9 5 ⟨g, 0, none⟩ cap l Try.underlying43 Try.underlying5 Try.underlying9 (fun j hj => by
      have e : (⟨g, 0, none⟩ : Addr).add j = ⟨g, j, none⟩ := by
        unfold Addr.add
        by_cases e : j = 0
        · rw [if_pos e, e]
        · rw [if_neg e, Nat.zero_add]
      rw [e]
      exact hc j _ (by simp [numsB, hj]))
theorem brow_below {w w' : World} {base : Nat} {A : Option Addr} {cap : Nat} {l : List Int} (h : BRow w base A cap l) (hb : Below w.heap.size w w') : BRow w' base A cap l :=
  h.kept fun k _ hk _ _ => hb.block k hk
theorem wpList_append_runC {P : Program} {ops : Array Oper} {rest : List Oper} {o : Oper} {a : Act} {w w' : World} {Q : Exit → Act → World → Prop} (hg : o.guard = none) (s x : Operand) (t u : TypeId)
    (hop : o.op = .call { callee := .builtin .append, args := #[s, x], argTypes := #[t, u] }) (v1 v2 v : Value) (hs : a.eval s = v1) (hx : a.eval x = v2)
    (hrun : (Builtin.append_ #[t, u] o.type #[v1, v2]).run P w = .ok v w') (h : wpList P ops Q rest (a.put o.dst v) w') : wpList P ops Q (o :: rest) a w :=
  wpList_plain hg fun K hK => by
    unfold Oper.wp
    simp [execOp, hop, resolve, invoke, builtin, hs, hx, hrun, Result.andThen]
    exact hK _ _ h

set_option maxHeartbeats 2000000 in
theorem replace_any (s old : ByteArray) (c : UInt8) (ho : old = ⟨#[c]⟩) (hs : s.size ≤ 1000) (w : World) : Calls Try.prog 20 #[.string s, .string old, .string ⟨#[]⟩] w fun e w' => e = .returned (.string (dropB c s)) ∧ Below w.heap.size w w' := by
  have hol : old.toList = [c] := by rw [ho, ByteArray.toList_eq]
  have hoz : old.size = 1 := by rw [ho]; rfl
  have HO := Go.Lib.hid hol
  clear ho hol
  go_enter Try.func20, Try.ntmps20
  go_wp2_with fail
  go_loopw [7, 8] (fun o i wr => ∃ (j : Nat) (A : Option Addr) (cap : Nat) (l : List Int), j ≤ s.size ∧ i = .int .i64 j ∧ o = .slice A l.length cap ∧ Hid (BRow wr w.heap.size A cap l) ∧ Hid (l = numsB (dropL c (s.data.toList.take j))) ∧ Hid (Below w.heap.size w wr)) (fun _ i _ => s.size - (intOf i).toNat)
  case atStart => exact ⟨0, none, 0, [], Nat.zero_le _, rfl, rfl, World.ownsRow_nil _ _ _ _, rfl, Below.refl _ _⟩
  case round =>
    obtain ⟨j, A, cap, l, hj, rfl, rfl, HR, HL, HB⟩ := hrel
    by_cases hlt : j < s.size
    · have hle : (j : Int) + 1 ≤ (s.size : Int) := by omega
      have H1 := Go.Lib.hid (one_list s j hlt)
      have HD := Go.Lib.hid (dropL_step c s j hlt)
      by_cases hc : s[j] = c
      · have ht : ((s.extract j (j + 1)).toList == old.toList) = true := by rw [H1.out, HO.out, hc]; simp
        have ha := append_empty wr A l.length cap (brow_len HR.out)
        have HL2 : Hid (l = numsB (dropL c (s.data.toList.take (j + 1)))) := by rw [HD.out, if_pos hc, List.append_nil]; exact HL.out
        clear hc
        go_wp2_with (at_builtin; refine wpList_append_runC rfl _ _ 43 9 rfl _ _ _ rfl rfl ha ?_)
        go_roundw
        case rel => exact ⟨j + 1, A, cap, l, by omega, by go_num, rfl, HR.out, HL2.out, HB.out⟩
        case measure => simp [intOf]; omega
      · have ht : ((s.extract j (j + 1)).toList == old.toList) = false := by rw [H1.out, HO.out]; simp [hc]
        have hix : ∀ h, (s[j]'h).toNat = (s[j]'hlt).toNat := fun _ => rfl
        obtain ⟨b, hb⟩ : ∃ b, b = s[j]'hlt := ⟨_, rfl⟩
        rw [← hb] at hix hc
        have hz := HB.out.size
        have kb : Below wr.heap.size wr (wr.alloc (.cells #[.int .u8 (b.toNat : Int)] 5)) := (Below.refl _ _).alloc (Nat.le_refl _) _
        have hsrc : BSrc (wr.alloc (.cells #[.int .u8 (b.toNat : Int)] 5)) (some ⟨wr.heap.size, 0, none⟩) 1 1 [(b.toNat : Int)] := by
          refine ⟨rfl, .inr ⟨_, rfl, fun i u hu => ?_⟩⟩
          have hi : i = 0 := by have := (List.getElem?_eq_some_iff.1 hu).1; simp [u8s] at this; exact this
          subst hi
          simp [u8s] at hu
          subst hu
          rw [show (⟨wr.heap.size, 0, none⟩ : Addr).add 0 = ⟨wr.heap.size, 0, none⟩ from rfl]
          simp [go_sem]
        have hln : l.length ≤ 1000 := by
          rw [HL.out]; simp only [numsB, List.length_map, dropL]
          have := List.length_filter_le (fun b => b != c) (s.data.toList.take j)
          simp at this; omega
        obtain ⟨A', cap', w2, hrun, hrow, hgr, hbk⟩ := run_append_rowB _ w.heap.size A cap l (brow_below HR.out kb) _ 1 1 [(b.toNat : Int)] hsrc (by simp; omega) (by simp; omega)
        have HL2 : Hid (l ++ [(b.toNat : Int)] = numsB (dropL c (s.data.toList.take (j + 1)))) := by
          rw [HD.out, ← hb, if_neg hc, numsB_append, ← HL.out]; rfl
        have HB2 : Hid (Below w.heap.size w w2) := by
          have h0 : Below w.heap.size w (wr.alloc (.cells #[.int .u8 (b.toNat : Int)] 5)) := HB.out.alloc hz _
          refine ⟨hgr.os.trans h0.os, hgr.tape.trans h0.tape, hgr.output.trans h0.output, by have := hgr.size; simp at this; omega, fun i hi => ?_⟩
          rw [hgr.block i (by simp; omega) (fun e => by have := (HR.out.blk_lt (k := i) e.symm).1; omega)]
          exact h0.block i hi
        have HROW := Go.Lib.hid hrow
        have HRUN := Go.Lib.hid hrun
        have hj1 : (j : Int) < s.size := by omega
        obtain ⟨l2, hl2⟩ : ∃ l2, l2 = l ++ [(b.toNat : Int)] := ⟨_, rfl⟩
        rw [← hl2] at HL2 HROW HRUN
        clear hrun hrow hgr hbk hsrc kb hc hb hl2
        go_wp2_with (at_builtin; refine wpList_append_runC rfl _ _ 43 43 rfl _ _ _ rfl rfl HRUN.out ?_)
        go_roundw
        case rel => exact ⟨j + 1, A', cap', l2, by omega, by go_num, rfl, HROW.out, HL2.out, HB2.out⟩
        case measure => simp [intOf]; omega
    · have hge : ¬ (j : Int) < s.size := by omega
      have hr : BRow wr w.heap.size A cap (numsB (dropL c s.data.toList)) := by
        have := HL.out
        rw [List.take_of_length_le (by simp; omega)] at this
        rw [← this]; exact HR.out
      have hln : l.length = (numsB (dropL c s.data.toList)).length := by
        have := HL.out
        rw [List.take_of_length_le (by simp; omega)] at this
        rw [← this]
      have htx := brow_text hr
      rw [← hln] at htx
      have HN : Hid (dropB c s = ⟨(dropL c s.data.toList).toArray⟩) := rfl
      generalize (dropL c s.data.toList).toArray = x at htx HN
      clear hln hr
      go_wp2_with fail
      go_returns
      exact ⟨by rw [HN.out]; rfl, HB.out⟩

theorem dropB_len (c : UInt8) (s : ByteArray) : (dropB c s).size ≤ s.size := by
  show (dropL c s.data.toList).toArray.size ≤ _
  have := List.length_filter_le (fun b => b != c) s.data.toList
  simpa [dropL] using this
/-- A text without line feeds and returns. -/
def clean (s : ByteArray) : ByteArray := dropB 13 (dropB 10 s)
theorem clean_any (s : ByteArray) (hs : s.size ≤ 1000) (w : World) : Calls Try.prog 15 #[.string s] w fun e w' => e = .returned (.string (clean s)) ∧ Below w.heap.size w w' := by
  have H1 := Go.Lib.hid (replace_any s ⟨#[10]⟩ 10 rfl hs w)
  have H2 := Go.Lib.hid fun w => replace_any (dropB 10 s) ⟨#[13]⟩ 13 rfl (by have := dropB_len 10 s; omega) w
  have HN : Hid (clean s = dropB 13 (dropB 10 s)) := rfl
  go_enter Try.func15, Try.ntmps15
  go_wp2_with fail
  refine H1.out.mono ?_
  rintro e w1 ⟨rfl, k1⟩
  have K1 := Go.Lib.hid k1
  clear k1
  go_wp2_with fail
  refine (H2.out w1).mono ?_
  rintro e w2 ⟨rfl, k2⟩
  have K2 := Go.Lib.hid (K1.out.trans (k2.mono K1.out.size))
  clear k2
  go_wp2_with fail
  go_returns
  exact ⟨by rw [HN.out]; rfl, K2.out⟩
end Go.Proofs.Ytjdphehphceegaa
