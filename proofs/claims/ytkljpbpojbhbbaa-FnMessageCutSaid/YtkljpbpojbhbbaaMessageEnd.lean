/- The walk of laws.FnMessageCut: a whole message is one, what is cut off is none. -/
import Derived.Test.YtkljpbpojbhbbaaMessageLaw
namespace Go.Proofs.Ytkljpbpojbhbbaa
open Go.RowKit
set_option linter.unusedVariables false
set_option linter.unusedSimpArgs false

/-- The six bytes ahead of a message's data. -/
def headBytes (n k : Nat) : List UInt8 := [0, 0, UInt8.ofNat (n / 256), UInt8.ofNat (n % 256), UInt8.ofNat (k / 256), UInt8.ofNat (k % 256)]

theorem head_conv (n : Nat) (k : Nat) (w : World) (hn : n ≤ 1002) (hk : k < 32768) :
    (convert 44 9 (.slice (some ⟨w.heap.size, 0, none⟩) 6 6)).run Try.prog (w.alloc (.cells #[.int .u8 ((n : Int) / 16777216), .int .u8 ((n : Int) / 65536), .int .u8 ((n : Int) / 256), .int .u8 ((n : Int) % 256), .int .u8 ((k : Int) / 256), .int .u8 ((k : Int) % 256)] 5)) =
      .ok (.string ⟨(headBytes n k).toArray⟩) (w.alloc (.cells #[.int .u8 ((n : Int) / 16777216), .int .u8 ((n : Int) / 65536), .int .u8 ((n : Int) / 256), .int .u8 ((n : Int) % 256), .int .u8 ((k : Int) / 256), .int .u8 ((k : Int) % 256)] 5)) := by
  refine run_convert_bytes_back (P := Try.prog) _ 44 9 5 ⟨w.heap.size, 0, none⟩ 6 (headBytes n k) Try.underlying44 Try.underlying5 Try.underlying9 (fun j hj => ?_)
  have ha : (⟨w.heap.size, 0, none⟩ : Addr).add j = ⟨w.heap.size, j, none⟩ := by
    unfold Addr.add
    by_cases e : j = 0
    · rw [if_pos e, e]
    · rw [if_neg e, Nat.zero_add]
  rw [ha, World.cell?_alloc_new]
  match j, hj with
  | 0, _ => simp [headBytes]; omega
  | 1, _ => simp [headBytes]; omega
  | 2, _ => simp [headBytes]; omega
  | 3, _ => simp [headBytes]
  | 4, _ => simp [headBytes]; omega
  | 5, _ => simp [headBytes]
  | j + 6, h => simp [headBytes] at h; omega

theorem message_any (k : Nat) (s : ByteArray) (w : World) (hs : s.size ≤ 1000) (h1 : k < 32768) :
    Calls Try.prog 11 #[.int .i64 k, .string s] w fun e w' => e = .returned (.string (⟨(headBytes (s.size + 2) k).toArray⟩ ++ s)) ∧ Below w.heap.size w w' := by
  have hk := head_conv (s.size + 2) k w (by omega) h1
  obtain ⟨hb, hhb⟩ : ∃ hb : ByteArray, hb = ⟨(headBytes (s.size + 2) k).toArray⟩ := ⟨_, rfl⟩
  have hb6 : hb.size ≤ 6 := by rw [hhb]; exact Nat.le_refl 6
  rw [← hhb] at hk ⊢
  clear hhb
  rw [show ((s.size + 2 : Nat) : Int) = (s.size : Int) + 2 from by omega] at hk
  go_enter Try.func11, Try.ntmps11
  go_wp2_with fail
  go_returns
  exact ⟨rfl, by go_grown⟩

theorem at_list (t : ByteArray) (l : List UInt8) (ht : t.data.toList = l) (i : Nat) (h : i < t.size) : (t[i]'h) = l.getD i 0 := by
  subst ht
  have h' : i < t.data.size := h
  simp [List.getD, h]; rfl

theorem size_list (t : ByteArray) (l : List UInt8) (ht : t.data.toList = l) : t.size = l.length := by subst ht; simp

theorem begins_list (t : ByteArray) (b2 b3 : UInt8) (l : List UInt8) (ht : t.data.toList = 0 :: 0 :: b2 :: b3 :: l) (h2 : b2.toNat ≤ 3) : Begins t b2.toNat b3.toNat := by
  have hs := size_list t _ ht
  simp at hs
  have h4 : 4 ≤ t.size := by omega
  exact ⟨h4, by rw [at_list t _ ht]; rfl, by rw [at_list t _ ht]; rfl, by rw [at_list t _ ht]; rfl, by rw [at_list t _ ht]; rfl, h2, by have := UInt8.toNat_lt b3; omega⟩

theorem message_list (n k : Nat) (s : ByteArray) : (⟨(headBytes n k).toArray⟩ ++ s : ByteArray).data.toList = headBytes n k ++ s.data.toList := by simp [ByteArray.toList_data_append]

namespace fnMessageCut
theorem walk (k : Int) (s : ByteArray) (a : Int) (w : World) (hk : (Lit.int .u16 k).wf = true) (hs : s.size ≤ maxLen) (ha : (Lit.int .u16 a).wf = true) :
    Calls Try.prog 5 #[.int .u16 k, .string s, .int .u16 a] w fun e w' => e = .returned (.bool true) ∧ Below w.heap.size w w' := by
  have bk := bounds_u16 hk
  have ba := bounds_u16 ha
  clear hk ha
  unfold maxLen at hs
  by_cases h1 : 2147483647 < (s.size : Int)
  · go_enter Try.func5, Try.ntmps5
    go_wp2_with fail
    go_returns
    exact ⟨rfl, Below.refl _ _⟩
  by_cases h2 : 1000 < (s.size : Int)
  · go_enter Try.func5, Try.ntmps5
    go_wp2_with fail
    go_returns
    exact ⟨rfl, Below.refl _ _⟩
  by_cases h3 : 32768 ≤ k
  · go_enter Try.func5, Try.ntmps5
    go_wp2_with fail
    go_returns
    exact ⟨rfl, Below.refl _ _⟩
  obtain ⟨k, rfl⟩ := Int.eq_ofNat_of_zero_le bk.1
  go_enter Try.func5, Try.ntmps5
  go_wp2_with fail
  refine (message_any k s w (by omega) (by omega)).mono ?_
  rintro e w1 ⟨rfl, hb1⟩
  generalize ht : (⟨(headBytes (s.size + 2) k).toArray⟩ ++ s : ByteArray) = t
  have hl : t.data.toList = headBytes (s.size + 2) k ++ s.data.toList := by rw [← ht]; exact message_list _ _ _
  clear ht
  have hsz : t.size = s.size + 2 + 4 := by rw [size_list t _ hl]; simp [headBytes]
  have HL := Go.Lib.hid hl
  have HS := Go.Lib.hid hsz
  have ht0 : 0 < (t.size : Int) := by omega
  have ht1 : t.size ≤ 1006 := by omega
  clear hl hsz
  obtain ⟨a, rfl⟩ := Int.eq_ofNat_of_zero_le ba.1
  obtain ⟨m, hm⟩ : ∃ m : Nat, m = a % t.size := ⟨_, rfl⟩
  have hmt : m < t.size := by rw [hm]; exact Nat.mod_lt _ (by omega)
  have hmod : (a : Int) % (t.size : Int) = (m : Int) := by rw [hm]; simp
  clear hm
  have hm0 : (0 : Int) ≤ m := by omega
  have hm1 : (m : Int) ≤ t.size := by omega
  go_wp2_with fail
  have hcut : Calls Try.prog 12 #[.string (t.extract 0 m)] w1 (NoPost w1) := by
    have hz : (t.extract 0 m).size = m := by simp; omega
    by_cases h4 : m < 4
    · exact impl_short _ w1 (by omega)
    · have hel : (t.extract 0 m).data.toList = 0 :: 0 :: UInt8.ofNat ((s.size + 2) / 256) :: UInt8.ofNat ((s.size + 2) % 256) :: (UInt8.ofNat (k / 256) :: UInt8.ofNat (k % 256) :: s.data.toList).take (m - 4) := by
        obtain ⟨j, rfl⟩ : ∃ j, m = j + 4 := ⟨m - 4, by omega⟩
        simp [HL.out, headBytes]
      have e2 : (UInt8.ofNat ((s.size + 2) / 256)).toNat = (s.size + 2) / 256 := by simp; omega
      have e3 : (UInt8.ofNat ((s.size + 2) % 256)).toNat = (s.size + 2) % 256 := by simp
      have hbeg := begins_list _ _ _ _ hel (by rw [e2]; omega)
      rw [e2, e3] at hbeg
      have eL : (s.size + 2) / 256 * 256 + (s.size + 2) % 256 = s.size + 2 := by omega
      by_cases h5 : (t.extract 0 m).size < (s.size + 2) / 256 * 256 + (s.size + 2) % 256
      · exact impl_over _ _ _ w1 (by omega) hbeg h5
      · refine impl_cut _ _ _ w1 (by omega) hbeg (by omega) (by have := HS.out; omega) (by omega) (by omega) (fun h => ?_)
        rw [at_list _ _ hel]
        obtain ⟨j, rfl⟩ : ∃ j, m = j + 5 := ⟨m - 5, by omega⟩
        simp; omega
  have hwhole : ∀ W, Calls Try.prog 12 #[.string t] W (YesPost W) := fun W => by
    have hel : t.data.toList = 0 :: 0 :: UInt8.ofNat ((s.size + 2) / 256) :: UInt8.ofNat ((s.size + 2) % 256) :: UInt8.ofNat (k / 256) :: UInt8.ofNat (k % 256) :: s.data.toList := HL.out
    have e2 : (UInt8.ofNat ((s.size + 2) / 256)).toNat = (s.size + 2) / 256 := by simp; omega
    have e3 : (UInt8.ofNat ((s.size + 2) % 256)).toNat = (s.size + 2) % 256 := by simp
    have hbeg := begins_list _ _ _ _ hel (by rw [e2]; omega)
    rw [e2, e3] at hbeg
    refine impl_full _ _ _ W (by omega) hbeg (by have := HS.out; omega) (by omega) (by omega) (fun h => ?_)
    rw [at_list _ _ hel]
    simp; omega
  refine hcut.mono ?_
  have HW := Go.Lib.hid hwhole
  clear hcut hwhole
  rintro e w2 ⟨rfl, hb2⟩
  go_wp2_with fail
  refine (HW.out _).mono ?_
  rintro e w3 ⟨kk, x, y, rfl, hb3⟩
  go_wp2_with fail
  go_returns
  have hb12 := hb1.trans (hb2.mono hb1.size)
  exact ⟨rfl, hb12.trans (hb3.mono hb12.size)⟩
end fnMessageCut
end Go.Proofs.Ytkljpbpojbhbbaa
