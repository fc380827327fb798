/- The walk of laws.FnCharAt: the sign that stands at a place counted from the cursor. -/
import Derived.Test.YtedjjimabchffaaDoorDocBase
import Derived.Test.YtedjjimabchffaaDoorLinesPlain
namespace Go.Proofs.YtedjjimabchffaaDoor
open Go.RowKit
set_option linter.unusedVariables false
set_option linter.unusedSimpArgs false

theorem decode_one (s : ByteArray) (w : World) (h0 : 0 < s.size) (ha : (s[0]'h0).toNat < 128) :
    Calls Tryd.prog 21 #[.string s] w fun e w' => e = .returned (.tuple #[.int .i32 ((s[0]'h0).toNat : Nat), .int .i64 1]) ∧ w = w' := by
  have h1 : (0 : Int) < s.size := by omega
  have h2 : ((s[0]'h0).toNat : Int) < 128 := by omega
  have hl : s.toList ≠ [] := by
    intro e
    rw [ByteArray.toList_eq] at e
    have h : s.data.toList.length = s.size := by simp
    rw [e] at h
    have h' : (0 : Nat) = s.size := h
    omega
  have h3 : s.toList.isEmpty = false := by simpa using hl
  have h4 : (s.toList == []) = false := by simpa using hl
  have h5 : (!s.toList.isEmpty) = true := by simp [h3]
  clear hl ha
  go_enter Tryd.func21, Tryd.ntmps21
  go_wp2_with fail
  go_returns
  exact ⟨rfl, rfl⟩

/-- The sign at a place; 0 where there is none. -/
def charAt (s : ByteArray) (z : Int) : Int := if 0 ≤ z ∧ z < s.size then byteAt s z.toNat else 0

theorem char_rel (b : Nat) (s : ByteArray) (k : Nat) (off : Int) (w : World) (hd : DocAt w b s k) (hs : Small s) (hk : k ≤ s.size) (h1 : -2000 ≤ off) (h2 : off ≤ 2000) :
    Calls Tryd.prog 17 #[.pointer (some ⟨b, 0, none⟩), .int .i64 off] w fun e w' => e = .returned (.int .i32 (charAt s ((k : Int) + off - 1))) ∧ w = w' := by
  obtain ⟨c0, c1, hb⟩ := hd
  obtain ⟨ha, hsz⟩ := hs
  have HA := Go.Lib.hid ha
  obtain ⟨res, hres⟩ : ∃ r, r = charAt s ((k : Int) + off - 1) := ⟨_, rfl⟩
  rw [← hres]
  have Hr := Go.Lib.hid hres
  clear ha hres
  go_enter Tryd.func17, Tryd.ntmps17
  go_wp2_with fail
  go_loop [5, 6] (fun t5 t6 => ∃ (j : Nat) (cur : ByteArray), j ≤ s.size ∧ t5 = .string cur ∧ t6 = .int .i64 j ∧ cur.size + j ≤ s.size ∧ s.size ≤ cur.size + j ∧ Hid (cur = s.extract j s.size) ∧ Hid (∀ i : Nat, i < j → (i : Int) + 1 ≠ (k : Int) + off)) (fun t5 t6 => s.size - (intOf t6).toNat)
  case atStart => exact ⟨0, s, Nat.zero_le _, rfl, rfl, by omega, by omega, (extract_all s).symm, fun i hi => by omega⟩
  case round =>
    obtain ⟨j, cur, hj, rfl, rfl, z1, z2, HC, HN⟩ := hrel
    by_cases hlt : j < s.size
    · have h0 : 0 < cur.size := by omega
      have hcs : (0 : Int) < cur.size := by omega
      have hcs1 : (1 : Int) ≤ cur.size := by omega
      have hbyte : Hid (((cur[0]'h0).toNat : Int) = byteAt s j) := by
        rw [Hid, ← byteAt_lt cur 0 h0, HC.out, byteAt_extract s j 0 s.size (by omega), Nat.add_zero]
      have hal : (cur[0]'h0).toNat < 128 := (show IsAscii cur from by rw [HC.out]; exact HA.out.extract _ _).at 0 h0
      have HAL := Go.Lib.hid hal
      clear hal
      by_cases hc : (j : Int) + 1 = (k : Int) + off
      · have hc' : ((j : Int) + 1 == (k : Int) + off) = true := by simpa using hc
        have HR : Hid (res = byteAt s j) := by
          rw [Hid, Hr.out, charAt, if_pos (by omega), show ((k : Int) + off - 1).toNat = j by omega]
        clear hc
        go_wp2_with fail
        refine (decode_one cur _ h0 HAL.out).mono ?_
        rintro e w1 ⟨rfl, rfl⟩
        go_wp2_with fail
        go_returns
        exact ⟨by rw [HR.out, ← hbyte.out]; rfl, rfl⟩
      · have hc' : ((j : Int) + 1 == (k : Int) + off) = false := by simpa using hc
        have HNC := Go.Lib.hid hc
        have HC2 : Hid (cur.extract 1 cur.size = s.extract (j + 1) s.size) := by
          rw [Hid, HC.out]
          apply ba_ext
          have hl : s.data.toList.length = s.size := by simp
          rw [extract_list, extract_list, extract_list, size_sub s j s.size (Nat.le_refl _), List.drop_take, List.drop_drop, List.take_take]
          congr 1; omega
        clear hc
        go_wp2_with fail
        refine (decode_one cur _ h0 HAL.out).mono ?_
        rintro e w1 ⟨rfl, rfl⟩
        go_wp2_with fail
        go_round
        case rel => exact ⟨j + 1, cur.extract 1 cur.size, by omega, rfl, by go_num, by rw [ByteArray.size_extract]; omega, by rw [ByteArray.size_extract]; omega, HC2, fun i hi => by
          by_cases e : i < j
          · exact HN.out i e
          · obtain rfl : i = j := by omega
            exact HNC.out⟩
        case measure => simp [intOf]; omega
    · have h0 : ¬ (0 : Int) < cur.size := by omega
      have HR : Hid (res = 0) := by
        rw [Hid, Hr.out, charAt, if_neg]
        rintro ⟨g1, g2⟩
        exact HN.out ((k : Int) + off - 1).toNat (by omega) (by omega)
      go_wp2_with fail
      go_returns
      exact ⟨by rw [HR.out]; rfl, rfl⟩

theorem impl_char (s : ByteArray) (k : Nat) (off : Int) (w : World) (hs : Small s) (hk : k ≤ s.size) (h1 : -2000 ≤ off) (h2 : off ≤ 2000) :
    Calls Tryd.prog 11 #[.agg #[.string s, .int .i64 (k : Nat)], .int .i64 off] w fun e w' => e = .returned (.int .i32 (charAt s ((k : Int) + off - 1))) ∧ Below w.heap.size w w' := by
  have HS := Go.Lib.hid hs
  clear hs
  go_enter Tryd.func11, Tryd.ntmps11
  go_wp2_with fail
  refine (document_any s k _ HS.out hk).mono ?_
  rintro e w1 ⟨b, rfl, hd, hb, b1⟩
  have HD := Go.Lib.hid hd
  have hb1 : Below w.heap.size w w1 := ((Below.refl _ _).alloc (Nat.le_refl _) _).trans (b1.mono (by simp))
  clear hd b1
  go_wp2_with fail
  refine (char_rel b s k off w1 HD.out HS.out hk h1 h2).mono ?_
  rintro e w2 ⟨rfl, rfl⟩
  go_wp2_with fail
  go_returns
  exact ⟨rfl, hb1⟩

namespace fnCharAt
set_option maxHeartbeats 2000000 in
theorem walk (s : ByteArray) (at_ : Int) (off : Int) (w : World) (hs : s.size ≤ maxLen) (hat : (Lit.int .i64 at_).wf = true) (hof : (Lit.int .i64 off).wf = true) {X : Prop} (_hL : X) :
    Calls Tryd.prog 3 #[.agg #[.string s, .int .i64 at_], .int .i64 off] w fun e w' => e = .returned (.bool true) ∧ Below w.heap.size w w' := by
  unfold maxLen at hs
  clear hat hof _hL
  by_cases h1 : 2147483647 < (s.size : Int)
  · go_enter Tryd.func3, Tryd.ntmps3
    go_wp2_with fail
    refine (fits2_no s at_ _ h1 (by omega)).mono ?_
    rintro e w1 ⟨rfl, rfl⟩
    go_wp2_with fail
    go_returns
    exact ⟨rfl, by go_grown⟩
  by_cases h2 : Right s at_
  · by_cases h3 : 2000 < off
    · have H2 := Go.Lib.hid h2
      clear h2
      go_enter Tryd.func3, Tryd.ntmps3
      go_wp2_with fail
      refine (fits2_yes s _ _ (by omega)).mono ?_
      rintro e w1 ⟨rfl, rfl⟩
      go_wp2_with fail
      refine (right_yes s _ _ H2.out).mono ?_
      rintro e w1 ⟨rfl, rfl⟩
      go_wp2_with fail
      go_returns
      exact ⟨rfl, by go_grown⟩
    by_cases h4 : off < -2000
    · have H2 := Go.Lib.hid h2
      clear h2
      go_enter Tryd.func3, Tryd.ntmps3
      go_wp2_with fail
      refine (fits2_yes s _ _ (by omega)).mono ?_
      rintro e w1 ⟨rfl, rfl⟩
      go_wp2_with fail
      refine (right_yes s _ _ H2.out).mono ?_
      rintro e w1 ⟨rfl, rfl⟩
      go_wp2_with fail
      go_returns
      exact ⟨rfl, by go_grown⟩
    obtain ⟨k, rfl⟩ := Int.eq_ofNat_of_zero_le h2.2.1
    have hk : k ≤ s.size := by have := h2.2.2; omega
    have hsm := h2.1
    have hsz := hsm.2
    have hcv := fun w => run_runes (P := Tryd.prog) w 9 25 21 s Tryd.underlying9 Tryd.underlying25 Tryd.underlying21 (by omega)
    have hl := runes_ascii_length s hsm.1
    have hrow : Hid (∀ (cp : Nat) (j : Nat), j < s.size → (runeCells s cp)[j]? = some (.int .i32 (byteAt s j))) := fun cp j hj => by
      rw [runeCells_at s cp j (by rw [hl]; exact hj), nth_ascii s hsm.1]
    rw [hl] at hcv
    have H2 := Go.Lib.hid h2
    have HS := Go.Lib.hid hsm
    have hab : charAt ⟨#[97, 98]⟩ (((1 : Nat) : Int) + 1 - 1) = 98 := by decide
    have HAB := Go.Lib.hid hab
    have hsab : Small ⟨#[97, 98]⟩ := ⟨by intro b hb; simp at hb; rcases hb with rfl | rfl <;> decide, by decide⟩
    have HSAB := Go.Lib.hid hsab
    clear hl h2 hsm hab hsab
    by_cases g1 : 0 ≤ (k : Int) + off - 1
    · by_cases g2 : (k : Int) + off - 1 < s.size
      · obtain ⟨z, hz⟩ := Int.eq_ofNat_of_zero_le g1
        have HV : Hid (charAt s ((k : Int) + off - 1) = byteAt s z) := by rw [Hid, charAt, if_pos ⟨g1, g2⟩, hz, Int.toNat_natCast]
        have hzs : z < s.size := by omega
        have hz1 : (z : Int) < s.size := by omega
        clear g1 g2
        go_enter Tryd.func3, Tryd.ntmps3
        go_wp2_with fail
        refine (fits2_yes s _ _ (by omega)).mono ?_
        rintro e w1 ⟨rfl, rfl⟩
        go_wp2_with fail
        refine (right_yes s _ _ H2.out).mono ?_
        rintro e w1 ⟨rfl, rfl⟩
        have hr := fun cp => hrow.out cp z hzs
        go_wp2_with fail
        refine (impl_char s k off _ HS.out hk (by omega) (by omega)).mono ?_
        rw [HV.out]
        rintro e w2 ⟨rfl, b2⟩
        have hb2 : Below w.heap.size w w2 := (((((Below.refl w.heap.size w).alloc (Nat.le_refl _) _).alloc (by simp) _).alloc (by simp; omega) _).alloc (by simp; omega) _).drew.trans (b2.mono (by simp; omega))
        clear b2
        go_wp2_with fail
        refine (impl_char ⟨#[97, 98]⟩ 1 1 _ HSAB.out (by decide) (by omega) (by omega)).mono ?_
        rw [HAB.out]
        rintro e w3 ⟨rfl, b3⟩
        have hb3 := hb2.trans (b3.mono hb2.size)
        clear b3
        go_wp2_with fail
        go_returns
        exact ⟨rfl, hb3⟩
      · have HV : Hid (charAt s ((k : Int) + off - 1) = 0) := by rw [Hid, charAt, if_neg (fun h => g2 h.2)]
        go_enter Tryd.func3, Tryd.ntmps3
        go_wp2_with fail
        refine (fits2_yes s _ _ (by omega)).mono ?_
        rintro e w1 ⟨rfl, rfl⟩
        go_wp2_with fail
        refine (right_yes s _ _ H2.out).mono ?_
        rintro e w1 ⟨rfl, rfl⟩
        go_wp2_with fail
        refine (impl_char s k off _ HS.out hk (by omega) (by omega)).mono ?_
        rw [HV.out]
        rintro e w2 ⟨rfl, b2⟩
        have hb2 : Below w.heap.size w w2 := (((((Below.refl w.heap.size w).alloc (Nat.le_refl _) _).alloc (by simp) _).alloc (by simp; omega) _).alloc (by simp; omega) _).drew.trans (b2.mono (by simp; omega))
        clear b2
        go_wp2_with fail
        refine (impl_char ⟨#[97, 98]⟩ 1 1 _ HSAB.out (by decide) (by omega) (by omega)).mono ?_
        rw [HAB.out]
        rintro e w3 ⟨rfl, b3⟩
        have hb3 := hb2.trans (b3.mono hb2.size)
        clear b3
        go_wp2_with fail
        go_returns
        exact ⟨rfl, hb3⟩
    · have HV : Hid (charAt s ((k : Int) + off - 1) = 0) := by rw [Hid, charAt, if_neg (fun h => g1 h.1)]
      go_enter Tryd.func3, Tryd.ntmps3
      go_wp2_with fail
      refine (fits2_yes s _ _ (by omega)).mono ?_
      rintro e w1 ⟨rfl, rfl⟩
      go_wp2_with fail
      refine (right_yes s _ _ H2.out).mono ?_
      rintro e w1 ⟨rfl, rfl⟩
      go_wp2_with fail
      refine (impl_char s k off _ HS.out hk (by omega) (by omega)).mono ?_
      rw [HV.out]
      rintro e w2 ⟨rfl, b2⟩
      have hb2 : Below w.heap.size w w2 := (((((Below.refl w.heap.size w).alloc (Nat.le_refl _) _).alloc (by simp) _).alloc (by simp; omega) _).alloc (by simp; omega) _).drew.trans (b2.mono (by simp; omega))
      clear b2
      go_wp2_with fail
      refine (impl_char ⟨#[97, 98]⟩ 1 1 _ HSAB.out (by decide) (by omega) (by omega)).mono ?_
      rw [HAB.out]
      rintro e w3 ⟨rfl, b3⟩
      have hb3 := hb2.trans (b3.mono hb2.size)
      clear b3
      go_wp2_with fail
      go_returns
      exact ⟨rfl, hb3⟩
  · have H2 := Go.Lib.hid h2
    clear h2
    go_enter Tryd.func3, Tryd.ntmps3
    go_wp2_with fail
    refine (fits2_yes s _ _ (by omega)).mono ?_
    rintro e w1 ⟨rfl, rfl⟩
    go_wp2_with fail
    refine (right_no s _ _ hs H2.out).mono ?_
    rintro e w1 ⟨rfl, rfl⟩
    go_wp2_with fail
    go_returns
    exact ⟨rfl, by go_grown⟩
end fnCharAt
end Go.Proofs.YtedjjimabchffaaDoor
