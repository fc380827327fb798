/- The kinds of filters: zzIndex, zzContains, fuzzyMatch. -/
import Derived.Test.YtldlgipailfbnaaDoorPickBase
import Derived.Test.YtldlgipailfbnaaDoorShelf
namespace Go.Proofs.YtldlgipailfbnaaDoor
open Go.RowKit
set_option linter.unusedVariables false
set_option linter.unusedSimpArgs false

theorem infix_iff (s t : ByteArray) : t.data.toList <:+: s.data.toList ↔ ∃ j, j + t.size ≤ s.size ∧ s.extract j (j + t.size) = t := by
  have hs : s.data.toList.length = s.size := by simp
  have ht : t.data.toList.length = t.size := by simp
  constructor
  · rintro ⟨a, b, h⟩
    refine ⟨a.length, ?_, ?_⟩
    · have := congrArg List.length h; simp at this; omega
    · apply ba_ext
      rw [extract_list, ← h, List.append_assoc, List.drop_left]
      rw [show a.length + t.size - a.length = t.data.toList.length by omega, List.take_left]
  · rintro ⟨j, hj, h⟩
    have := congrArg (fun x : ByteArray => x.data.toList) h
    simp only [extract_list] at this
    rw [← this]
    exact ((List.take_prefix _ _).isInfix).trans (List.drop_suffix _ _).isInfix

theorem toList_inj {a b : ByteArray} (h : a.toList = b.toList) : a = b := by
  apply ba_ext
  rwa [ByteArray.toList_eq, ByteArray.toList_eq] at h

def IndexPost (s t : ByteArray) (w : World) (e : Ending) (w' : World) : Prop := ∃ r : Int, e = .returned (.int .i64 r) ∧ (conA s t = true ↔ 0 ≤ r) ∧ w = w'

theorem index_any (s t : ByteArray) (w : World) (hs : s.size ≤ 60) (ht : t.size ≤ 60) : Calls Tryd.prog 23 #[.string s, .string t] w (IndexPost s t w) := by
  go_enter Tryd.func23, Tryd.ntmps23
  go_wp2_with fail
  go_loop [5] (fun i => ∃ k : Nat, k ≤ s.size + 1 ∧ i = .int .i64 k ∧ Hid (∀ j, j < k → s.extract j (j + t.size) ≠ t)) (fun i => s.size + 1 - (intOf i).toNat)
  case atStart => exact ⟨0, by omega, rfl, fun j hj => by omega⟩
  case round =>
    obtain ⟨k, hk, rfl, HG⟩ := hrel
    by_cases hle : (k : Int) + t.size ≤ s.size
    · by_cases heq : s.extract k (k + t.size) = t
      · have HC : Hid (conA s t = true) := conA_true.2 ((infix_iff s t).2 ⟨k, by omega, heq⟩)
        have h1 : ((s.extract k (k + t.size)).toList == t.toList) = true := by rw [heq]; simp
        clear heq
        go_wp2_with fail
        go_returns
        exact ⟨k, rfl, ⟨fun _ => by omega, fun _ => HC.out⟩, rfl⟩
      · have HE := Go.Lib.hid heq
        have h1 : ((s.extract k (k + t.size)).toList == t.toList) = false := by
          rw [beq_eq_false_iff_ne]
          intro e
          exact heq (toList_inj e)
        clear heq
        go_wp2_with fail
        go_round
        case rel => exact ⟨k + 1, by omega, by go_num, fun j hj => by
          by_cases e : j < k
          · exact HG.out j e
          · obtain rfl : j = k := by omega
            exact HE.out⟩
        case measure => simp [intOf]; omega
    · have HN : Hid (¬ conA s t = true) := fun h => by
        obtain ⟨j, h1, h2⟩ := (infix_iff s t).1 (conA_true.1 h)
        exact HG.out j (by omega) h2
      go_wp2_with fail
      go_returns
      exact ⟨-1, rfl, ⟨fun h => absurd h HN.out, fun h => by omega⟩, rfl⟩

theorem contains_any (s t : ByteArray) (w : World) (hs : s.size ≤ 60) (ht : t.size ≤ 60) : Calls Tryd.prog 18 #[.string s, .string t] w fun e w' => e = .returned (.bool (conA s t)) ∧ Below w.heap.size w w' := by
  have H := Go.Lib.hid (index_any s t w hs ht)
  unfold IndexPost at H
  generalize conA s t = c at H ⊢
  go_enter Tryd.func18, Tryd.ntmps18
  go_wp2_with fail
  refine H.out.mono ?_
  rintro e w1 ⟨r, rfl, hr, rfl⟩
  by_cases h0 : 0 ≤ r
  · obtain rfl := hr.2 h0
    clear hr
    go_wp2_with fail
    go_returns
    exact ⟨rfl, Below.refl _ _⟩
  · obtain rfl : c = false := by
      cases h : c
      · rfl
      · exact absurd (hr.1 h) h0
    clear hr
    have hd : decide (0 ≤ r) = false := by simpa using h0
    go_wp2_with fail
    go_returns
    exact ⟨rfl, Below.refl _ _⟩

theorem decode_at (s : ByteArray) (h : IsAscii s) (p : Nat) (hp : p < s.size) : Utf8.decode s p = ((s[p]'hp).toNat, 1) := decode_ascii s p hp (h.at p hp)

theorem sub_step {c x : UInt8} {r t : List UInt8} (h : c ≠ x) : (c :: r).Sublist (x :: t) ↔ (c :: r).Sublist t := by
  constructor
  · intro hs
    cases hs with
    | cons _ h' => exact h'
    | cons_cons _ h' => exact absurd rfl h
  · intro hs; exact hs.cons _

theorem drop_at (s : ByteArray) (k : Nat) (h : k < s.size) : s.data.toList.drop k = s[k] :: s.data.toList.drop (k + 1) := by
  rw [List.drop_eq_getElem_cons (by simpa using h)]; rfl

set_option maxRecDepth 100000 in
set_option maxHeartbeats 1000000 in
theorem fuzzy_any (s t : ByteArray) (w : World) (hs : s.size ≤ 60) (ht : t.size ≤ 60) (ia : IsAscii s) (ib : IsAscii t) : Calls Tryd.prog 19 #[.string s, .string t] w fun e w' => e = .returned (.bool (fuzA s t)) ∧ Below w.heap.size w w' := by
  have hk := fun w => run_runes (P := Tryd.prog) w 9 40 21 s Tryd.underlying9 Tryd.underlying40 Tryd.underlying21 (by omega)
  have hl := runes_ascii_length s ia
  have hrow : Hid (∀ j, j < s.size → (runeCells s (runeCap w 21 s))[j]? = some (.int .i32 (byteAt s j))) := fun j hj => by
    rw [← nth_ascii s ia]; exact runeCells_at s _ j (by rw [hl]; exact hj)
  have HB : Hid (∀ j (h : j < s.size), byteAt s j = (s[j].toNat : Int)) := fun j h => by
    unfold byteAt; rw [List.getElem?_eq_getElem (by simpa using h)]; rfl
  rw [hl] at hk
  have AS := Go.Lib.hid ia
  have AT := Go.Lib.hid ib
  clear hl ia ib
  go_enter Tryd.func19, Tryd.ntmps19
  go_wp2_with fail
  obtain ⟨W, hW⟩ : ∃ W, W = (w.alloc (.cells (runeCells s (runeCap w 21 s)) 21)).drew := ⟨_, rfl⟩
  have hcell : Hid (∀ j, j < s.size → W.cell? ⟨w.heap.size, j, none⟩ = some (.int .i32 (byteAt s j))) := fun j hj => by rw [hW]; simp [go_sem]; exact hrow.out j hj
  have hBW : Hid (Below w.heap.size w W) := by rw [hW]; exact ((Below.refl _ w).alloc (Nat.le_refl _) _).drew
  have hzW : W.heap.size = w.heap.size + 1 := by rw [hW]; simp
  rw [← hzW, ← hW]
  have HLT : Hid (w.heap.size < W.heap.size) := by show _ < _; omega
  generalize runeCap w 21 s = cap
  clear hW hrow hk hzW
  go_loopw [6] (fun x wr => ∃ k i : Nat, k ≤ t.size ∧ i ≤ s.size ∧ x = .int .i64 i ∧ wr = W.iter t k ∧ Hid (t.data.toList.Sublist s.data.toList ↔ (t.data.toList.drop k).Sublist (s.data.toList.drop i))) (fun _ wr => t.size - wr.iterPos W.heap.size)
  case atStart => exact ⟨0, 0, Nat.zero_le _, Nat.zero_le _, rfl, rfl, by simp [Hid]⟩
  case round =>
    obtain ⟨k, i, hk, hi, rfl, rfl, HS⟩ := hrel
    by_cases hlt : k < t.size
    · have hnx : ∀ ty, (Instr.next (.pointer (some ⟨W.heap.size, 0, none⟩)) true ty).run Tryd.prog (W.iter t k) = _ := fun ty => run_next_any W t k ty hlt
      have hdec := decode_at t AT.out k hlt
      rw [hdec] at hnx
      have HD := Go.Lib.hid (drop_at t k hlt)
      have hc127 : ((t[k]'hlt).toNat : Int) ≤ 255 := by have := (t[k]'hlt).toNat_lt; omega
      generalize t[k]'hlt = c at hnx HD hc127
      obtain ⟨ci, hci⟩ : ∃ ci : Nat, ci = c.toNat := ⟨_, rfl⟩
      rw [← hci] at hnx hc127
      have HCI := Go.Lib.hid hci
      clear hdec hci
      dsimp only at hnx
      go_wp2_with fail
      go_loop [6, 9] (fun x y => ∃ j : Nat, i ≤ j ∧ j ≤ s.size ∧ x = .int .i64 j ∧ y = .bool false ∧ Hid (t.data.toList.Sublist s.data.toList ↔ (t.data.toList.drop k).Sublist (s.data.toList.drop j))) (fun x _ => s.size - (intOf x).toNat)
      case atStart => exact ⟨i, Nat.le_refl _, hi, rfl, rfl, HS.out⟩
      case round =>
        obtain ⟨j, hij, hj, rfl, rfl, HJ⟩ := hrel
        by_cases hjs : j < s.size
        · have hcj : (W.iter t (k + 1)).cell? ⟨w.heap.size, j, none⟩ = some (.int .i32 (byteAt s j)) := (World.cell?_alloc_lt W _ ⟨w.heap.size, j, none⟩ HLT.out).trans (hcell.out j hjs)
          have HD2 := Go.Lib.hid (drop_at s j hjs)
          have hb := HB.out j hjs
          generalize s[j]'hjs = x at HD2 hb
          have HBB := Go.Lib.hid hb
          generalize byteAt s j = bx at hcj HBB
          clear hb
          have hj0 : (0 : Int) ≤ j := by omega
          have hj1 : (j : Int) < s.size := by omega
          by_cases he : bx = ci
          · have he' : (bx == (ci : Int)) = true := by simp [he]
            have HE : Hid (c = x) := UInt8.toNat_inj.1 (by have := HBB.out; have := HCI.out; omega)
            clear he
            go_wp2_with fail
            go_roundw
            case rel => exact ⟨k + 1, j + 1, by omega, by omega, by go_num, rfl, by
              rw [Hid, HJ.out, HD.out, HD2.out, HE.out, List.cons_sublist_cons]⟩
            case measure => simp; omega
          · have he' : (bx == (ci : Int)) = false := by simpa using he
            have HE : Hid (c ≠ x) := fun e => he (by rw [HBB.out, HCI.out, e])
            clear he
            go_wp2_with fail
            go_round
            case rel => exact ⟨j + 1, by omega, by omega, by go_num, rfl, by
              rw [Hid, HJ.out, HD.out, HD2.out, sub_step HE.out]⟩
            case measure => simp [intOf]; omega
        · have HN : Hid (fuzA s t = false) := by
            cases h : fuzA s t
            · rfl
            · have h1 := HJ.out.1 (fuzA_true.1 h)
              have e0 : s.data.toList.drop j = [] := List.drop_eq_nil_of_le (by simp; omega)
              rw [e0, HD.out] at h1
              cases h1
          have hj1 : ¬ (j : Int) < s.size := by omega
          go_wp2_with fail
          go_returns
          exact ⟨by rw [HN.out]; rfl, hBW.out.alloc hBW.out.size _⟩
    · have HN : Hid (fuzA s t = true) := fuzA_true.2 (HS.out.2 (by rw [List.drop_eq_nil_of_le (by simp; omega)]; exact List.nil_sublist _))
      have hnx := fun ty => run_next_end (P := Tryd.prog) W t k ty (by omega)
      go_wp2_with fail
      go_returns
      exact ⟨by rw [HN.out]; rfl, hBW.out.alloc hBW.out.size _⟩

/-- What is asked of a function that a filter is handed. -/
def AskOk (fn : Nat) (f : Asks) : Prop := ∀ (s t : ByteArray) (w : World), IsAscii s → IsAscii t → s.size ≤ 60 → t.size ≤ 60 → Calls Tryd.prog fn #[.string s, .string t] w fun e w' => e = .returned (.bool (f s t)) ∧ Below w.heap.size w w'
theorem ask_con : AskOk 18 conA := fun s t w _ _ hs ht => contains_any s t w hs ht
theorem ask_fuz : AskOk 19 fuzA := fun s t w a b hs ht => fuzzy_any s t w hs ht a b
theorem bool_eq {a b : Bool} (h : a = true ↔ b = true) : a = b := by cases a <;> cases b <;> simp_all
theorem ask_pre : AskOk 16 preA := fun s t w _ _ hs ht => (Tryd.strings_HasPrefix s t w).mono fun e w' ⟨h1, h2⟩ => ⟨by
  rw [h1, bool_eq (a := Lib.hasPrefix s.data.toList t.data.toList) (b := preA s t) (by rw [preA_true]; unfold Lib.hasPrefix; exact List.isPrefixOf_iff_prefix)], by rw [h2]; exact Below.refl _ _⟩
theorem ask_suf : AskOk 17 sufA := fun s t w _ _ hs ht => (Tryd.strings_HasSuffix s t w (by omega)).mono fun e w' ⟨h1, h2⟩ => ⟨by
  rw [h1, bool_eq (a := Lib.hasSuffix s.data.toList t.data.toList) (b := sufA s t) (by rw [sufA_true]; unfold Lib.hasSuffix; exact List.isSuffixOf_iff_suffix)], by rw [h2]; exact Below.refl _ _⟩

theorem upperB_lt (b : UInt8) (h : b.toNat < 128) : (Lib.upperB b).toNat < 128 := by
  unfold Lib.upperB
  split
  · rename_i hl
    have h2 : 97 ≤ b := by simp [Lib.isLowerB] at hl; exact hl.1
    have h3 : 97 ≤ b.toNat := by simpa [UInt8.le_iff_toNat_le] using h2
    rw [UInt8.toNat_sub_of_le _ _ (by rw [UInt8.le_iff_toNat_le]; show 32 ≤ _; omega)]
    omega
  · exact h
theorem up_ascii (any : Bool) (s : ByteArray) (h : IsAscii s) : IsAscii (up any s) := by
  unfold up
  split
  · intro b hb
    simp [Lib.toUpperA] at hb
    obtain ⟨c, hc, rfl⟩ := hb
    exact upperB_lt c (h c (by simpa using hc))
  · exact h
theorem up_size (any : Bool) (s : ByteArray) : (up any s).size = s.size := by
  unfold up
  split
  · show (Lib.toUpperA s.data.toList).toArray.size = _
    simp [Lib.toUpperA]
  · rfl
theorem upper_any (s : ByteArray) (w : World) (h : IsAscii s) (hs : s.size ≤ 60) : Calls Tryd.prog 20 #[.string s] w fun e w' => e = .returned (.string (up true s)) ∧ Below w.heap.size w w' :=
  Tryd.strings_ToUpper_ascii s w (by omega) fun j b hb => h b (List.mem_of_getElem? hb)
end Go.Proofs.YtldlgipailfbnaaDoor
