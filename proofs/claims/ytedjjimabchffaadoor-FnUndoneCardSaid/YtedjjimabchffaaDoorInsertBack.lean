/- The walk of laws.FnInsertBack: a text that is inserted, and taken out ahead of the cursor, leaves all as it was, and is what was taken out. -/
import Derived.Test.YtedjjimabchffaaDoorBufEdited
namespace Go.Proofs.YtedjjimabchffaaDoor
open Go.RowKit
set_option linter.unusedVariables false
set_option linter.unusedSimpArgs false

theorem ba_append_list (a b : ByteArray) : (a ++ b).data.toList = a.data.toList ++ b.data.toList := by rw [ByteArray.data_append, Array.toList_append]
theorem ba_len (a : ByteArray) : a.data.toList.length = a.size := by simp

theorem cut_join (s : ByteArray) (k : Nat) (hk : k ≤ s.size) : s.extract 0 k ++ s.extract k s.size = s := by
  apply ba_ext
  rw [ba_append_list, extract_list, extract_list, List.drop_zero, Nat.sub_zero]
  rw [List.take_of_length_le (l := s.data.toList.drop k) (by simp), List.take_append_drop]

theorem mid_cut (P v Q : ByteArray) (k m : Nat) (hP : P.size = k) (hm : m = k + v.size) :
    (P ++ v ++ Q).extract k m = v ∧ (P ++ v ++ Q).extract 0 k = P ∧ (P ++ v ++ Q).extract m (P ++ v ++ Q).size = Q ∧ (P ++ v ++ Q).size = k + v.size + Q.size := by
  subst hm
  have l1 := ba_len P
  have l2 := ba_len v
  have l3 := ba_len Q
  have hz : (P ++ v ++ Q).size = k + v.size + Q.size := by simp [ByteArray.size_append]; omega
  refine ⟨?_, ?_, ?_, hz⟩
  · apply ba_ext
    rw [extract_list, ba_append_list, ba_append_list, List.append_assoc, List.drop_append, List.drop_of_length_le (by omega), show k - P.data.toList.length = 0 by omega, List.drop_zero, List.nil_append, show k + v.size - k = v.data.toList.length by omega, List.take_append_of_le_length (Nat.le_refl _), List.take_of_length_le (Nat.le_refl _)]
  · apply ba_ext
    rw [extract_list, ba_append_list, ba_append_list, List.append_assoc, List.drop_zero, show k - 0 = P.data.toList.length by omega, List.take_append_of_le_length (Nat.le_refl _), List.take_of_length_le (Nat.le_refl _)]
  · apply ba_ext
    rw [extract_list, ba_append_list, ba_append_list, List.drop_append, List.drop_of_length_le (by simp; omega), List.nil_append]
    rw [show k + v.size - (P.data.toList ++ v.data.toList).length = 0 by simp; omega, List.drop_zero, List.take_of_length_le (by omega)]

theorem ascii_append {a b : ByteArray} (ha : IsAscii a) (hb : IsAscii b) : IsAscii (a ++ b) := fun x hx => by
  rw [ba_append_list] at hx
  rcases List.mem_append.1 hx with h | h
  · exact ha x h
  · exact hb x h

/-- What is inserted, and taken out again. -/
theorem insert_before (s v : ByteArray) (k : Nat) (hs : Wide s) (hv : IsAscii v) (hk : k ≤ s.size) (hz : s.size + v.size ≤ 3000) (hvz : v.size ≤ 2000) (u : ByteArray) (f : Bool) :
    StepOk ⟨7, (v.size : Nat), u, f⟩ (s.extract 0 k ++ v ++ s.extract k s.size) (k + v.size) v s k := by
  have hP := size_sub s 0 k (by omega)
  have hQ := size_sub s k s.size (by omega)
  obtain ⟨h1, h2, h3, h4⟩ := mid_cut (s.extract 0 k) v (s.extract k s.size) k (k + v.size) (by omega) rfl
  have ha : IsAscii (s.extract 0 k ++ v ++ s.extract k s.size) := ascii_append (ascii_append (hs.1.extract _ _) hv) (hs.1.extract _ _)
  have := step_before (s.extract 0 k ++ v ++ s.extract k s.size) (k + v.size) v.size ⟨ha, by omega⟩ (by omega) hvz u f
  rw [Nat.add_sub_cancel, h1, h2, h3, cut_join s k hk] at this
  exact this

theorem eds_two (w : World) (e d : Ed) (t : TypeId) : EdsAt (w.alloc (.cells #[.int .i64 e.op, .int .i64 e.n, .string e.s, .bool e.f, .int .i64 d.op, .int .i64 d.n, .string d.s, .bool d.f] t)) w.heap.size 0 [e, d] := fun j x hx => by
  match j, hx with
  | 0, hx =>
    obtain rfl : e = x := by simpa using hx
    exact ⟨by simp [go_sem], by simp [go_sem], by simp [go_sem], by simp [go_sem]⟩
  | 1, hx =>
    obtain rfl : d = x := by simpa using hx
    exact ⟨by simp [go_sem], by simp [go_sem], by simp [go_sem], by simp [go_sem]⟩
  | j + 2, hx => simp at hx

namespace fnInsertBack
set_option maxRecDepth 100000 in
set_option maxHeartbeats 4000000 in
theorem core (s v : ByteArray) (k : Nat) (w : World) (hs : Small s) (hv : Small v) (hk : k ≤ s.size) :
    Calls Tryd.prog 4 #[.agg #[.string s, .int .i64 (k : Nat)], .string v] w fun e w' => e = .returned (.bool true) ∧ Below w.heap.size w w' := by
  have hsz := hs.2
  have hvz := hv.2
  have hR : Right s (k : Int) := ⟨hs, by omega, by omega⟩
  have HR := Go.Lib.hid hR
  have HV := Go.Lib.hid hv
  have S1 := step_insert s v k hs.wide hv.wide hk 0
  have S2 := insert_before s v k hs.wide hv.1 hk (by omega) (by omega) ⟨#[]⟩ false
  have hC := Chain.cons S1 (.cons S2 (.nil _ _))
  have E1 := Go.Lib.hid (fun (A : Option Addr) (b : Nat) (w : World) (hA : A = some ⟨b, 0, none⟩ ∧ b < w.heap.size ∧ EdsAt w b 0 [⟨1, 0, v, false⟩, ⟨7, (v.size : Nat), ⟨#[]⟩, false⟩]) => edited_any b 0 A 2 [⟨1, 0, v, false⟩, ⟨7, (v.size : Nat), ⟨#[]⟩, false⟩] [⟨#[]⟩, v] s s k k w hs hk (.inr hA) hC (by simp))
  obtain ⟨B, cap, A, W, hcv, hb, -, -, -, -, -⟩ := runes_made (((w.alloc (.cells #[.string s, .int .i64 (k : Nat)] 23)).alloc (.cells #[.string s, .int .i64 (k : Nat)] 23)).alloc (.cells #[.string s, .int .i64 (k : Nat)] 23)) v 0 hv.wide (Nat.zero_le _)
  have D0 : Hid (DocAt W w.heap.size s k) := ⟨(hb.cell (p := ⟨w.heap.size, 0, none⟩) (by simp <;> omega)).trans (by simp [go_sem]), (hb.cell (p := ⟨w.heap.size, 1, none⟩) (by simp <;> omega)).trans (by simp [go_sem]), by have := hb.size; simp at this; omega⟩
  have B0 : Hid (Below w.heap.size w W) := ((((Below.refl w.heap.size w).alloc (Nat.le_refl _) _).alloc (by simp) _).alloc (by simp; omega) _).trans (hb.mono (by simp; omega))
  clear hR S1 S2 hC hs hv hb
  go_enter Tryd.func4, Tryd.ntmps4
  go_wp2_with fail
  refine (fits2_yes s _ _ (by omega)).mono ?_
  rintro e w1 ⟨rfl, rfl⟩
  go_wp2_with fail
  refine (right_yes s _ _ HR.out).mono ?_
  rintro e w1 ⟨rfl, rfl⟩
  go_wp2_with fail
  refine (ascii_yes v _ HV.out).mono ?_
  rintro e w1 ⟨rfl, rfl⟩
  go_wp2_with fail
  refine (E1.out _ W.heap.size _ ⟨rfl, by simp, ?_⟩).mono ?_
  · have := eds_two W ⟨1, 0, v, false⟩ ⟨7, (v.size : Nat), ⟨#[]⟩, false⟩ 33
    simpa using this
  rintro e w1 ⟨u, he, hown, b1⟩
  obtain ⟨hl, g, cap2, hu, hg, hS⟩ := strs_of_owns hown (by simp)
  subst hu
  subst he
  have DK : Hid (DocAt w1 w.heap.size s k) := DocAt.below (D0.out.below ((Below.refl _ _).alloc (Nat.le_refl _) _)) b1
  have B1 : Hid (Below w.heap.size w w1) := (B0.out.alloc B0.out.size _).trans (b1.mono (by have := B0.out.size; simp; omega))
  have cg : w1.cell? ⟨g, 1, none⟩ = some (.string v) := hS.2 1 (by simp)
  have gl : g < w1.heap.size := hS.1
  have g1 : ¬ g = w1.heap.size := by omega
  obtain ⟨d0, d1, z0⟩ := DK.out
  have m0 : ¬ w.heap.size = w1.heap.size := by omega
  clear b1 hown hl hS hg
  go_wp2_with fail
  go_returns
  exact ⟨rfl, B1.out.alloc B1.out.size _⟩

theorem walk (s : ByteArray) (at_ : Int) (v : ByteArray) (w : World) (hs : s.size ≤ maxLen) (hat : (Lit.int .i64 at_).wf = true) (hv : v.size ≤ maxLen) {X : Prop} (_hL : X) :
    Calls Tryd.prog 4 #[.agg #[.string s, .int .i64 at_], .string v] w fun e w' => e = .returned (.bool true) ∧ Below w.heap.size w w' := by
  unfold maxLen at hs hv
  clear hat _hL
  by_cases h1 : 2147483647 < (s.size : Int)
  · go_enter Tryd.func4, Tryd.ntmps4
    go_wp2_with fail
    refine (fits2_no s at_ _ h1 (by omega)).mono ?_
    rintro e w1 ⟨rfl, rfl⟩
    go_wp2_with fail
    go_returns
    exact ⟨rfl, by go_grown⟩
  by_cases h1' : 2147483647 < (v.size : Int)
  · go_enter Tryd.func4, Tryd.ntmps4
    go_wp2_with fail
    refine (fits2_yes s at_ _ (by omega)).mono ?_
    rintro e w1 ⟨rfl, rfl⟩
    go_wp2_with fail
    go_returns
    exact ⟨rfl, by go_grown⟩
  by_cases h2 : Right s at_
  · by_cases h3 : Small v
    · obtain ⟨k, rfl⟩ := Int.eq_ofNat_of_zero_le h2.2.1
      exact core s v k w h2.1 h3 (by have := h2.2.2; omega)
    · have H2 := Go.Lib.hid h2
      have H3 := Go.Lib.hid h3
      clear h2 h3
      go_enter Tryd.func4, Tryd.ntmps4
      go_wp2_with fail
      refine (fits2_yes s _ _ (by omega)).mono ?_
      rintro e w1 ⟨rfl, rfl⟩
      go_wp2_with fail
      refine (right_yes s _ _ H2.out).mono ?_
      rintro e w1 ⟨rfl, rfl⟩
      go_wp2_with fail
      refine (ascii_no v _ hv H3.out).mono ?_
      rintro e w1 ⟨rfl, rfl⟩
      go_wp2_with fail
      go_returns
      exact ⟨rfl, by go_grown⟩
  · have H2 := Go.Lib.hid h2
    clear h2
    go_enter Tryd.func4, Tryd.ntmps4
    go_wp2_with fail
    refine (fits2_yes s _ _ (by omega)).mono ?_
    rintro e w1 ⟨rfl, rfl⟩
    go_wp2_with fail
    refine (right_no s _ _ hs H2.out).mono ?_
    rintro e w1 ⟨rfl, rfl⟩
    go_wp2_with fail
    go_returns
    exact ⟨rfl, by go_grown⟩
end fnInsertBack
end Go.Proofs.YtedjjimabchffaaDoor
