/- Bytes and words that are looked for: strings.IndexByte, LastIndexByte, IndexNotByte, LastIndexNotByte, spec.last, spec.Start, spec.End. -/
import Derived.Test.YtedjjimabchffaaDocLines
import Derived.Lib.Bytealg
import Derived.Lib.IndexLaws
namespace Go.Proofs.Ytedjjimabchffaa
open Go.RowKit
set_option linter.unusedVariables false
set_option linter.unusedSimpArgs false

theorem lstB_yes (s : ByteArray) (p : Int → Bool) (n : Nat) (hp : p (byteAt s n) = true) : lstB s p (n + 1) = n := by rw [lstB, if_pos hp]
theorem lstB_no (s : ByteArray) (p : Int → Bool) (n : Nat) (hp : p (byteAt s n) = false) : lstB s p (n + 1) = lstB s p n := by rw [lstB, if_neg (by simp [hp])]

theorem isB_yes {x c : Int} {n : Bool} (h : isB x n c = true) : (n = false ∧ x = c) ∨ (n = true ∧ x ≠ c) := by
  unfold isB at h
  by_cases e : x = c
  · rw [show (x == c) = true from by simpa using e] at h; cases n
    · exact .inl ⟨rfl, e⟩
    · simp at h
  · rw [show (x == c) = false from by simpa using e] at h; cases n
    · simp at h
    · exact .inr ⟨rfl, e⟩
theorem isB_no {x c : Int} {n : Bool} (h : isB x n c = false) : (n = true ∧ x = c) ∨ (n = false ∧ x ≠ c) := by
  unfold isB at h
  by_cases e : x = c
  · rw [show (x == c) = true from by simpa using e] at h; cases n
    · simp at h
    · exact .inl ⟨rfl, e⟩
  · rw [show (x == c) = false from by simpa using e] at h; cases n
    · exact .inr ⟨rfl, e⟩
    · simp at h

theorem indexNot_any (s : ByteArray) (x : Int) (w : World) (hs : s.size ≤ 1000) :
    Calls Try.prog 68 #[.string s, .int .u8 x] w fun e w' => e = .returned (.int .i64 (fst s (isB x true))) ∧ w = w' := by
  obtain ⟨res, hres⟩ : ∃ r, r = fst s (isB x true) := ⟨_, rfl⟩
  rw [← hres]
  have Hr := Go.Lib.hid hres
  clear hres
  go_enter Try.func68, Try.ntmps68
  go_wp2
  go_loop [6] (fun i => ∃ k : Nat, k ≤ s.size ∧ i = .int .i64 k ∧ Hid (res = fstB s (isB x true) (s.size - k))) (fun i => s.size - (intOf i).toNat)
  case atStart => exact ⟨0, Nat.zero_le _, rfl, Hr⟩
  case round =>
    obtain ⟨k, hk, rfl, HK⟩ := hrel
    by_cases hlt : k < s.size
    · have H2 := Go.Lib.hid (byteAt_lt s k hlt)
      cases hp : isB x true (byteAt s k) with
      | true =>
        have HF := Go.Lib.hid (fstB_yes s (isB x true) k hlt hp)
        have hc : ((s[k].toNat : Int) != x) = true := by
          rcases isB_yes hp with ⟨h, _⟩ | ⟨_, h⟩
          · cases h
          · rw [← H2.out]; simp; exact fun e => h e.symm
        clear hp
        go_wp2_with fail
        go_returns
        exact ⟨by rw [HK.out, HF.out]; rfl, rfl⟩
      | false =>
        have HF := Go.Lib.hid (fstB_no s (isB x true) k hlt hp)
        have hc : ((s[k].toNat : Int) != x) = false := by
          rcases isB_no hp with ⟨_, h⟩ | ⟨h, _⟩
          · rw [← H2.out]; simp [h]
          · cases h
        clear hp
        go_wp2_with fail
        go_round
        case rel => exact ⟨k + 1, by omega, by go_num, HK.out.trans HF.out⟩
        case measure => simp [intOf]; omega
    · have HF := Go.Lib.hid (fstB_end s (isB x true) k (by omega))
      go_wp2_with fail
      go_returns
      exact ⟨by rw [HK.out, HF.out]; rfl, rfl⟩

theorem lastNot_any (s : ByteArray) (x : Int) (w : World) (hs : s.size ≤ 1000) :
    Calls Try.prog 67 #[.string s, .int .u8 x] w fun e w' => e = .returned (.int .i64 (lst s (isB x true))) ∧ w = w' := by
  obtain ⟨res, hres⟩ : ∃ r, r = lst s (isB x true) := ⟨_, rfl⟩
  rw [← hres]
  have Hr := Go.Lib.hid hres
  clear hres
  go_enter Try.func67, Try.ntmps67
  go_wp2
  go_loop [5] (fun i => ∃ (k : Nat) (z : Int), k ≤ s.size ∧ z + 1 ≤ (k : Int) ∧ (k : Int) ≤ z + 1 ∧ i = .int .i64 z ∧ Hid (res = lstB s (isB x true) k)) (fun i => (intOf i + 1).toNat)
  case atStart => exact ⟨s.size, _, Nat.le_refl _, by omega, by omega, rfl, Hr⟩
  case round =>
    obtain ⟨k, z, hk, hz, hz', rfl, HK⟩ := hrel
    match k, hk, hz, hz', HK with
    | 0, hk, hz, hz', HK =>
      have hz1 : z < 0 := by omega
      have HF : Hid (res = -1) := HK.out
      clear hz hz' HK
      go_wp2_with fail
      go_returns
      exact ⟨by rw [HF.out]; rfl, rfl⟩
    | k + 1, hk, hz, hz', HK =>
      obtain rfl : z = (k : Int) := by omega
      have H2 := Go.Lib.hid (byteAt_lt s k (by omega))
      have hk0 : (k : Int) < s.size := by omega
      clear hz hz'
      cases hp : isB x true (byteAt s k) with
      | true =>
        have HF := Go.Lib.hid (lstB_yes s (isB x true) k hp)
        have hc : ((s[k].toNat : Int) != x) = true := by
          rcases isB_yes hp with ⟨h, _⟩ | ⟨_, h⟩
          · cases h
          · rw [← H2.out]; simp; exact fun e => h e.symm
        clear hp
        go_wp2_with fail
        go_returns
        exact ⟨by rw [HK.out, HF.out]; rfl, rfl⟩
      | false =>
        have HF := Go.Lib.hid (lstB_no s (isB x true) k hp)
        have hc : ((s[k].toNat : Int) != x) = false := by
          rcases isB_no hp with ⟨_, h⟩ | ⟨h, _⟩
          · rw [← H2.out]; simp [h]
          · cases h
        clear hp
        go_wp2_with fail
        go_round
        case rel => exact ⟨k, _, by omega, by omega, by omega, rfl, HK.out.trans HF.out⟩
        case measure => simp [intOf]

theorem lastString_any (s : ByteArray) (x : Int) (w : World) (hs : s.size ≤ 1000) :
    Calls Try.prog 70 #[.string s, .int .u8 x] w fun e w' => e = .returned (.int .i64 (lst s (isB x false))) ∧ w = w' := by
  obtain ⟨res, hres⟩ : ∃ r, r = lst s (isB x false) := ⟨_, rfl⟩
  rw [← hres]
  have Hr := Go.Lib.hid hres
  clear hres
  go_enter Try.func70, Try.ntmps70
  go_wp2
  go_loop [5] (fun i => ∃ (k : Nat) (z : Int), k ≤ s.size ∧ z + 1 ≤ (k : Int) ∧ (k : Int) ≤ z + 1 ∧ i = .int .i64 z ∧ Hid (res = lstB s (isB x false) k)) (fun i => (intOf i + 1).toNat)
  case atStart => exact ⟨s.size, _, Nat.le_refl _, by omega, by omega, rfl, Hr⟩
  case round =>
    obtain ⟨k, z, hk, hz, hz', rfl, HK⟩ := hrel
    match k, hk, hz, hz', HK with
    | 0, hk, hz, hz', HK =>
      have hz1 : z < 0 := by omega
      have HF : Hid (res = -1) := HK.out
      clear hz hz' HK
      go_wp2_with fail
      go_returns
      exact ⟨by rw [HF.out]; rfl, rfl⟩
    | k + 1, hk, hz, hz', HK =>
      obtain rfl : z = (k : Int) := by omega
      have H2 := Go.Lib.hid (byteAt_lt s k (by omega))
      have hk0 : (k : Int) < s.size := by omega
      clear hz hz'
      cases hp : isB x false (byteAt s k) with
      | true =>
        have HF := Go.Lib.hid (lstB_yes s (isB x false) k hp)
        have hc : ((s[k].toNat : Int) == x) = true := by
          rcases isB_yes hp with ⟨_, h⟩ | ⟨h, _⟩
          · rw [← H2.out]; simp [h]
          · cases h
        clear hp
        go_wp2_with fail
        go_returns
        exact ⟨by rw [HK.out, HF.out]; rfl, rfl⟩
      | false =>
        have HF := Go.Lib.hid (lstB_no s (isB x false) k hp)
        have hc : ((s[k].toNat : Int) == x) = false := by
          rcases isB_no hp with ⟨h, _⟩ | ⟨_, h⟩
          · cases h
          · rw [← H2.out]; simp; exact fun e => h e.symm
        clear hp
        go_wp2_with fail
        go_round
        case rel => exact ⟨k, _, by omega, by omega, by omega, rfl, HK.out.trans HF.out⟩
        case measure => simp [intOf]

theorem lastByte_any (s : ByteArray) (x : Int) (w : World) (hs : s.size ≤ 1000) :
    Calls Try.prog 65 #[.string s, .int .u8 x] w fun e w' => e = .returned (.int .i64 (lst s (isB x false))) ∧ w = w' := by
  go_enter Try.func65, Try.ntmps65
  go_wp2_with fail
  refine (lastString_any s x _ hs).mono ?_
  rintro e w1 ⟨rfl, rfl⟩
  go_wp2_with fail
  go_returns
  exact ⟨rfl, rfl⟩

theorem last_any (s sd : ByteArray) (x : Int) (n : Bool) (w : World) (hs : s.size ≤ 1000) (hd : sd.size = 1) (hx : byteAt sd 0 = x) :
    Calls Try.prog 62 #[.string s, .string sd, .bool n] w fun e w' => e = .returned (.int .i64 (lst s (isB x n))) ∧ w = w' := by
  obtain ⟨res, hres⟩ : ∃ r, r = lst s (isB x n) := ⟨_, rfl⟩
  rw [← hres]
  have Hr := Go.Lib.hid hres
  have HD := Go.Lib.hid hd
  have HX := Go.Lib.hid hx
  clear hres hd hx
  go_enter Try.func62, Try.ntmps62
  go_wp2
  go_loop [7] (fun i => ∃ (k : Nat) (z : Int), k ≤ s.size ∧ z + 1 ≤ (k : Int) ∧ (k : Int) ≤ z + 1 ∧ i = .int .i64 z ∧ Hid (res = lstB s (isB x n) k)) (fun i => (intOf i + 1).toNat)
  case atStart => exact ⟨s.size, _, Nat.le_refl _, by omega, by omega, rfl, Hr⟩
  case round =>
    obtain ⟨k, z, hk, hz, hz', rfl, HK⟩ := hrel
    match k, hk, hz, hz', HK with
    | 0, hk, hz, hz', HK =>
      have hz1 : z < 0 := by omega
      have HF : Hid (res = -1) := HK.out
      clear hz hz' HK
      go_wp2_with fail
      go_returns
      exact ⟨by rw [HF.out]; rfl, rfl⟩
    | k + 1, hk, hz, hz', HK =>
      obtain rfl : z = (k : Int) := by omega
      have H2 := Go.Lib.hid (byteAt_lt s k (by omega))
      have hk0 : (k : Int) < s.size := by omega
      clear hz hz'
      cases hp : isB x n (byteAt s k) with
      | true =>
        have HF := Go.Lib.hid (lstB_yes s (isB x n) k hp)
        rcases isB_yes hp with ⟨rfl, h⟩ | ⟨rfl, h⟩
        · have HC := Go.Lib.hid (h.trans H2.out)
          clear hp h
          go_wp2_with fail
          rw [← HC.out]
          refine (has_yes sd x _ HD.out HX.out).mono ?_
          rintro e w1 ⟨rfl, rfl⟩
          go_wp2_with fail
          go_returns
          exact ⟨by rw [HK.out, HF.out]; rfl, rfl⟩
        · have HC := Go.Lib.hid (show x ≠ (s[k].toNat : Int) from fun e => h (e.trans H2.out.symm))
          clear hp h
          go_wp2_with fail
          refine (has_no sd x _ _ HD.out HX.out HC.out).mono ?_
          rintro e w1 ⟨rfl, rfl⟩
          go_wp2_with fail
          go_returns
          exact ⟨by rw [HK.out, HF.out]; rfl, rfl⟩
      | false =>
        have HF := Go.Lib.hid (lstB_no s (isB x n) k hp)
        rcases isB_no hp with ⟨rfl, h⟩ | ⟨rfl, h⟩
        · have HC := Go.Lib.hid (h.trans H2.out)
          clear hp h
          go_wp2_with fail
          rw [← HC.out]
          refine (has_yes sd x _ HD.out HX.out).mono ?_
          rintro e w1 ⟨rfl, rfl⟩
          go_wp2_with fail
          go_round
          case rel => exact ⟨k, _, by omega, by omega, by omega, rfl, HK.out.trans HF.out⟩
          case measure => simp [intOf]
        · have HC := Go.Lib.hid (show x ≠ (s[k].toNat : Int) from fun e => h (e.trans H2.out.symm))
          clear hp h
          go_wp2_with fail
          refine (has_no sd x _ _ HD.out HX.out HC.out).mono ?_
          rintro e w1 ⟨rfl, rfl⟩
          go_wp2_with fail
          go_round
          case rel => exact ⟨k, _, by omega, by omega, by omega, rfl, HK.out.trans HF.out⟩
          case measure => simp [intOf]

theorem index_fst (s : ByteArray) (x : UInt8) : Lib.indexByte s.data.toList x = fst s (isB x.toNat false) := by
  have hl : s.data.toList.length = s.size := by simp
  have hne : ∀ j, j < s.size → (isB x.toNat false (byteAt s j) = false ↔ s.data.toList[j]? ≠ some x) := fun j hj => by
    rw [List.getElem?_eq_getElem (by omega), byteAt_lt s j hj]
    have e : s.data.toList[j]'(by omega) = s[j] := by simp; rfl
    rw [e]
    unfold isB
    rw [Bool.bne_false, beq_eq_false_iff_ne]
    constructor
    · intro h e; have e' : s[j] = x := by simpa using e
      exact h (by rw [e'])
    · intro h e; exact h (by rw [UInt8.toNat_inj.1 (show s[j].toNat = x.toNat by omega)])
  rcases fst_spec s (isB x.toNat false) with ⟨h, hj⟩ | ⟨m, hm, h, hp, hj⟩
  · rw [h]
    have hge := Lib.indexByte_ge s.data.toList x
    by_cases e : Lib.indexByte s.data.toList x = -1
    · exact e
    · obtain ⟨o, ho⟩ := Int.eq_ofNat_of_zero_le (show 0 ≤ Lib.indexByte s.data.toList x by omega)
      obtain ⟨h1, _⟩ := Lib.indexByte_some ho
      have hos : o < s.size := by rw [← hl]; exact (List.getElem?_eq_some_iff.1 h1).1
      exact absurd h1 ((hne o hos).1 (hj o hos))
  · rw [h]
    have hpx : s.data.toList[m]? = some x := by
      apply Decidable.byContradiction
      intro hh
      have := (hne m hm).2 hh
      rw [this] at hp; cases hp
    have hge := Lib.indexByte_ge s.data.toList x
    by_cases e : Lib.indexByte s.data.toList x = -1
    · exact absurd hpx (Lib.indexByte_none e m)
    · obtain ⟨o, ho⟩ := Int.eq_ofNat_of_zero_le (show 0 ≤ Lib.indexByte s.data.toList x by omega)
      obtain ⟨h1, h2⟩ := Lib.indexByte_some ho
      have hos : o < s.size := by rw [← hl]; exact (List.getElem?_eq_some_iff.1 h1).1
      rcases Nat.lt_trichotomy o m with l | l | l
      · exact absurd h1 ((hne o hos).1 (hj o l))
      · rw [ho, l]
      · exact absurd hpx (h2 m l)

theorem indexByte_any (s : ByteArray) (x : UInt8) (w : World) :
    Calls Try.prog 71 #[.string s, .int .u8 (x.toNat : Nat)] w fun e w' => e = .returned (.int .i64 (fst s (isB x.toNat false))) ∧ w = w' := by
  have hx : ((x.toNat : Int)).toNat.toUInt8 = x := by simp
  rw [← index_fst]
  go_enter Try.func71, Try.ntmps71
  go_wp2
  rw [run_callFunc_extern Try.func74 (by kernel_rfl) (by kernel_rfl) (by kernel_rfl) (e := Extern.BytealgIndexByte.indexByte) (by kernel_rfl), Lib.run_indexByteString]
  simp only [Result.andThen]
  rw [Oper.upon_value, hx]
  go_wp2
  go_returns
  exact ⟨rfl, rfl⟩
end Go.Proofs.Ytedjjimabchffaa
