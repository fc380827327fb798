/- goprompt.GetKey: the first sequence that is the bytes. -/
import Derived.Test.YtkjahndemlladaaDoorKeySeq
import Derived.Laws.IdiomStrings
import Derived.Laws.BytesArg
namespace Go.Proofs.YtkjahndemlladaaDoor
open Go.RowKit
set_option linter.unusedVariables false
set_option linter.unusedSimpArgs false

/-- The text of some bytes. -/
def strK (l : List UInt8) : ByteArray := ⟨l.toArray⟩
/-- The key of bytes. -/
def keyL : List (Int × List UInt8) → ByteArray → Int
  | [], _ => 86
  | e :: L, s => if strK e.2 = s then e.1 else keyL L s

theorem keyL_cons (e : Int × List UInt8) (L : List (Int × List UInt8)) (s : ByteArray) : keyL (e :: L) s = if strK e.2 = s then e.1 else keyL L s := rfl
theorem ba_extK {a b : ByteArray} (h : a.data.toList = b.data.toList) : a = b := by
  cases a; cases b
  congr 1
  exact Array.ext' h
theorem toListK_ne {a b : ByteArray} (h : a ≠ b) : (a.toList == b.toList) = false := by
  rw [ByteArray.toList_eq, ByteArray.toList_eq, beq_eq_false_iff_ne]
  exact fun e => h (ba_extK e)
theorem back_at (W : World) (g : Nat) (l : List UInt8) (c : Nat) (h : ∀ j (hj : j < l.length), W.cell? ⟨g, j, none⟩ = some (.int .u8 (l[j].toNat : Int))) : (convert 24 9 (.slice (some ⟨g, 0, none⟩) l.length c)).run Tryd.prog W = .ok (.string (strK l)) W :=
  run_convert_bytes_back (P := Tryd.prog) W 24 9 5 ⟨g, 0, none⟩ c l Tryd.underlying24 Tryd.underlying5 Tryd.underlying9 (fun j hj => by
    have e : (⟨g, 0, none⟩ : Addr).add j = ⟨g, j, none⟩ := by
      unfold Addr.add
      by_cases e : j = 0
      · rw [if_pos e, e]
      · rw [if_neg e, Nat.zero_add]
    rw [e]
    exact h j hj)

def GetPost (s : ByteArray) (w : World) (e : Ending) (w' : World) : Prop := e = .returned (.int .i64 (keyL seqs8 s)) ∧ Below w.heap.size w w'
set_option maxRecDepth 100000 in
set_option maxHeartbeats 2000000 in
theorem getkey_any (A : Option Addr) (n c : Nat) (s : ByteArray) (w : World) (h : ∀ W, Below w.heap.size w W → (convert 24 9 (.slice A n c)).run Tryd.prog W = .ok (.string s) W) :
    Calls Tryd.prog 6 #[.slice A n c] w (GetPost s w) := by
  have HB := Go.Lib.hid h
  clear h
  go_enter Tryd.func6, Tryd.ntmps6
  go_wp2_with fail
  refine (seqs_any w).mono ?_
  rintro e w1 ⟨g, off, b, rfl, hq, k1⟩
  have HQ := Go.Lib.hid hq
  have K1 := Go.Lib.hid k1
  clear hq k1
  go_wp2_with fail
  go_loopw [7] (fun i wr => ∃ j : Nat, j ≤ 112 ∧ i = .int .i64 j ∧ Hid (Below w1.heap.size w1 wr) ∧ Hid (keyL seqs8 s = keyL (seqs8.drop j) s)) (fun i _ => 112 - (intOf i).toNat)
  case atStart => exact ⟨0, Nat.zero_le _, rfl, Below.refl _ _, rfl⟩
  case round =>
    obtain ⟨j, hj, rfl, HW, HK⟩ := hrel
    by_cases hlt : j < 112
    · have hlen : seqs8.length = 112 := by kernel_rfl
      obtain ⟨e, he⟩ : ∃ e, seqs8[j]? = some e := ⟨_, List.getElem?_eq_getElem (by omega)⟩
      obtain ⟨kk, bs⟩ := e
      have hdr : seqs8.drop j = (kk, bs) :: seqs8.drop (j + 1) := by
        rw [List.drop_eq_getElem_cons (by omega)]
        congr 1
        have := List.getElem?_eq_getElem (l := seqs8) (i := j) (by omega)
        rw [he] at this
        exact (Option.some.inj this).symm
      have hq := HQ.out.below HW.out
      have hzb : b + 112 ≤ wr.heap.size := hq.2.1
      have hg : g < wr.heap.size := hq.1
      obtain ⟨c1, c2, c3⟩ := hq.2.2 j (kk, bs) he
      simp only at c1 c2 c3
      have kb : Below wr.heap.size wr (wr.alloc (.cells #[.int .i64 kk, .slice (some ⟨b + j, 0, none⟩) bs.length bs.length] 32)) := (Below.refl _ _).alloc (Nat.le_refl _) _
      have hc1 := back_at (wr.alloc (.cells #[.int .i64 kk, .slice (some ⟨b + j, 0, none⟩) bs.length bs.length] 32)) (b + j) bs bs.length (fun i hi => (kb.cell (p := ⟨b + j, i, none⟩) (by show b + j < _; omega)).trans (c3 i hi))
      have hz1 := HW.out.size
      have hz0 := K1.out.size
      have BW : Hid (Below w1.heap.size w1 (wr.alloc (.cells #[.int .i64 kk, .slice (some ⟨b + j, 0, none⟩) bs.length bs.length] 32))) := HW.out.trans (kb.mono hz1)
      have BX : Hid (Below w.heap.size w (wr.alloc (.cells #[.int .i64 kk, .slice (some ⟨b + j, 0, none⟩) bs.length bs.length] 32))) := K1.out.trans (BW.out.mono hz0)
      have hc2 := HB.out _ BX.out
      have HD := Go.Lib.hid hdr
      obtain ⟨q, hqq⟩ : ∃ q, (strK bs).toList = q := ⟨_, rfl⟩
      obtain ⟨d, hd⟩ : ∃ d : Bool, decide (strK bs = s) = d := ⟨_, rfl⟩
      have HDD := Go.Lib.hid hd
      clear c3 kb hq he hlen hdr hd hqq HB
      obtain ⟨t, ht⟩ : ∃ t, t = strK bs := ⟨_, rfl⟩
      rw [← ht] at hc1 HDD
      have HT := Go.Lib.hid ht
      clear ht
      have heq : (t.toList == s.toList) = d := by
        rw [← HDD.out]
        by_cases e : t = s
        · simp [e]
        · rw [toListK_ne e]; simp [e]
      cases d
      · have HN : Hid (keyL seqs8 s = keyL (seqs8.drop (j + 1)) s) := by
          rw [HK.out, HD.out]
          have hne : ¬ strK bs = s := by rw [← HT.out]; exact of_decide_eq_false HDD.out
          rw [keyL_cons, if_neg hne]; exact rfl
        go_wp2_with fail
        go_roundw
        case rel => exact ⟨j + 1, by omega, by go_num, BW.out, HN.out⟩
        case measure => simp [intOf]; omega
      · have HY : Hid (keyL seqs8 s = kk) := by
          rw [HK.out, HD.out]
          have hne : strK bs = s := by rw [← HT.out]; exact of_decide_eq_true HDD.out
          rw [keyL_cons, if_pos hne]; exact rfl
        go_wp2_with fail
        go_returns
        exact ⟨by rw [HY.out]; rfl, BX.out⟩
    · have HE : Hid (keyL seqs8 s = 86) := by
        obtain rfl : j = 112 := by omega
        rw [HK.out, show seqs8.drop 112 = [] by kernel_rfl]
        rfl
      have BE : Hid (Below w.heap.size w wr) := K1.out.trans (HW.out.mono K1.out.size)
      go_wp2_with fail
      go_returns
      exact ⟨by rw [HE.out]; rfl, BE.out⟩
end Go.Proofs.YtkjahndemlladaaDoor
