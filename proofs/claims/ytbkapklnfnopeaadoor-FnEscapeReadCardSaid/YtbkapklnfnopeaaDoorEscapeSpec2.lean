/- spec.EscapeRead. -/
import Derived.Test.YtbkapklnfnopeaaDoorEscapeSpec
import Derived.Deep.QuietTactic
import Derived.BigQuiet
import Derived.WalkSmall
namespace Go.Proofs.YtbkapklnfnopeaaDoor
open Go.RowKit
set_option linter.unusedVariables false
set_option linter.unusedSimpArgs false

theorem take_all (a : ByteArray) (n : Nat) (h : a.size ≤ n) : (⟨(a.data.toList.take n).toArray⟩ : ByteArray) = a := by
  have : a.data.toList.length ≤ n := h
  rw [List.take_of_length_le this, Array.toArray_toList]

theorem lastOf_end (a : ByteArray) (n : Nat) (h : a.size ≤ n) : lastOf a n = 0 := by
  have : a.data.toList.length ≤ n := h
  unfold lastOf
  rw [List.getElem?_eq_none this]; rfl

theorem drop_end (a : ByteArray) (n : Nat) (h : a.size ≤ n) : (⟨(a.data.toList.drop n).toArray⟩ : ByteArray) = ⟨#[]⟩ := by
  have : a.data.toList.length ≤ n := h
  rw [List.drop_eq_nil_of_le this]

theorem ba_ext {a b : ByteArray} (h : a.data.toList = b.data.toList) : a = b := by
  cases a; cases b; simp at h; rw [h]

theorem extract_take (a : ByteArray) (n : Nat) : a.extract 0 n = ⟨(a.data.toList.take n).toArray⟩ := by
  apply ba_ext; simp [ByteArray.data_extract]

theorem extract_drop (a : ByteArray) (n : Nat) : a.extract n a.size = ⟨(a.data.toList.drop n).toArray⟩ := by
  apply ba_ext
  simp [ByteArray.data_extract]
  exact List.take_of_length_le (by rw [List.length_drop]; exact Nat.le_refl _)

theorem lastOf_at (a : ByteArray) (n : Nat) (h : n < a.size) : lastOf a n = (a[n].toNat : Int) := by
  have h' : n < a.data.toList.length := h
  unfold lastOf
  rw [List.getElem?_eq_getElem h']; rfl

theorem wrap_byte (b : UInt8) : wrap64 (b.toNat : Int) = b.toNat := by
  have := UInt8.toNat_lt b
  unfold wrap64; omega

def ErPost (a : ByteArray) (w : World) (e : Ending) (w' : World) : Prop :=
  ∃ n, AttrEnd a n ∧ e = .returned (.tuple #[.string ⟨(a.data.toList.take n).toArray⟩, .int .i64 (lastOf a n), .string ⟨(a.data.toList.drop (n + 1)).toArray⟩]) ∧ Below w.heap.size w w'

set_option maxRecDepth 100000 in
theorem spec_er (c : Nat) (hc : c < 128) (rest : ByteArray) (hr : rest.size ≤ 100) (w : World) :
    Calls Tryd.prog 5 #[.int .i64 c, .string rest] w (ErPost (⟨#[c.toUInt8]⟩ ++ rest) w) := by
  have hcu : (c : Int) % 256 = c := by omega
  have hwr : IntKind.u8.wrap (c : Int) = c := by rw [IntKind.wrap_u8]; omega
  have hcn : (c.toUInt8).toNat = c := by simp [Nat.toUInt8]; omega
  have hcv : (convert 27 9 (.slice (some ⟨w.heap.size, 0, none⟩) 1 1)).run Tryd.prog (w.alloc (.cells #[.int .u8 (c : Int)] 5)) = .ok (.string ⟨#[c.toUInt8]⟩) (w.alloc (.cells #[.int .u8 (c : Int)] 5)) :=
    run_convert_bytes_back (P := Tryd.prog) (w.alloc (.cells #[.int .u8 (c : Int)] 5)) 27 9 5 ⟨w.heap.size, 0, none⟩ 1 [c.toUInt8] Tryd.underlying27 Tryd.underlying5 Tryd.underlying9 (fun j hj => by
      obtain rfl : j = 0 := by simpa using hj
      simp [go_sem, Addr.add] at hcn ⊢
      omega)
  obtain ⟨hd, hhd⟩ : ∃ x : ByteArray, x = ⟨#[c.toUInt8]⟩ := ⟨_, rfl⟩
  have hd1 : hd.size = 1 := by rw [hhd]; rfl
  rw [← hhd] at hcv ⊢
  clear hhd
  go_enter Tryd.func5, Tryd.ntmps5
  go_wp2_with fail
  have hsz : (hd ++ rest).size ≤ 101 := by rw [ByteArray.size_append]; omega
  generalize hal : hd ++ rest = al at hsz ⊢
  have HAL := Go.Lib.hid hal
  clear hal
  go_loop [8] (fun i => ∃ k : Nat, k ≤ al.size ∧ i = .int .i64 k ∧ Hid (∀ (j : Nat) (hj : j < al.size), j < k → IsAttr (al[j]'hj).toNat)) (fun i => al.size - (intOf i).toNat)
  case atStart => exact ⟨0, Nat.zero_le _, rfl, fun j hj h => by omega⟩
  case round =>
    obtain ⟨k, hk, rfl, HN⟩ := hrel
    by_cases hlt : k < al.size
    · by_cases c1 : (al[k].toNat : Int) = 59
      · have c1' : ((al[k].toNat : Int) == 59) = true := by simp [c1]
        have C1 := Go.Lib.hid c1
        clear c1
        go_wp2_with fail
        go_round
        case rel => exact ⟨k + 1, by omega, by go_num, fun j hj h => by
          by_cases e : j < k
          · exact HN.out j hj e
          · obtain rfl : j = k := by omega
            exact .inl (by have := C1.out; omega)⟩
        case measure => simp [intOf]; omega
      · have c1' : ((al[k].toNat : Int) == 59) = false := by simpa using c1
        have C1 := Go.Lib.hid c1
        clear c1
        by_cases c2 : (48 : Int) ≤ (al[k].toNat : Int)
        · by_cases c3 : (al[k].toNat : Int) ≤ 57
          · have C2 := Go.Lib.hid c2
            have C3 := Go.Lib.hid c3
            go_wp2_with fail
            go_round
            case rel => exact ⟨k + 1, by omega, by go_num, fun j hj h => by
              by_cases e : j < k
              · exact HN.out j hj e
              · obtain rfl : j = k := by omega
                exact .inr (by have := C2.out; have := C3.out; omega)⟩
            case measure => simp [intOf]; omega
          · have HE : Hid (AttrEnd al k) := ⟨hk, HN.out, .inr ⟨hlt, fun h => by
            rcases h with h | h
            · exact C1.out (by omega)
            · omega⟩⟩
            have hne : ((k : Int) == (al.size : Int)) = false := by simp; omega
            have h1 := extract_take al k
            have h2 := lastOf_at al k hlt
            have h3 := extract_drop al (k + 1)
            have h4 := wrap_byte al[k]
            have H1 := Go.Lib.hid h1
            have H2 := Go.Lib.hid h2
            have H3 := Go.Lib.hid h3
            have H4 := Go.Lib.hid h4
            clear h1 h2 h3 h4
            go_wp2_with fail
            go_quiet (fail)
            go_wp2_with fail
            go_returns
            rw [HAL.out]
            exact ⟨k, HE.out, by first | (rw [← H1.out, H2.out, ← H3.out]; rfl) | (rw [← H1.out, H2.out, ← H3.out, H4.out]; rfl), below_drewN ((Below.refl _ _).alloc (Nat.le_refl _) _) _⟩
        · have HE : Hid (AttrEnd al k) := ⟨hk, HN.out, .inr ⟨hlt, fun h => by
            rcases h with h | h
            · exact C1.out (by omega)
            · omega⟩⟩
          have hne : ((k : Int) == (al.size : Int)) = false := by simp; omega
          have h1 := extract_take al k
          have h2 := lastOf_at al k hlt
          have h3 := extract_drop al (k + 1)
          have h4 := wrap_byte al[k]
          have H1 := Go.Lib.hid h1
          have H2 := Go.Lib.hid h2
          have H3 := Go.Lib.hid h3
          have H4 := Go.Lib.hid h4
          clear h1 h2 h3 h4
          go_wp2_with fail
          go_quiet (fail)
          go_wp2_with fail
          go_returns
          rw [HAL.out]
          exact ⟨k, HE.out, by first | (rw [← H1.out, H2.out, ← H3.out]; rfl) | (rw [← H1.out, H2.out, ← H3.out, H4.out]; rfl), below_drewN ((Below.refl _ _).alloc (Nat.le_refl _) _) _⟩
    · have HE : Hid (AttrEnd al k) := ⟨hk, HN.out, .inl (by omega)⟩
      have hne : ((k : Int) == (al.size : Int)) = true := by simp; omega
      have h1 := take_all al k (by omega)
      have h2 := lastOf_end al k (by omega)
      have h3 := drop_end al (k + 1) (by omega)
      have H1 := Go.Lib.hid h1
      have H2 := Go.Lib.hid h2
      have H3 := Go.Lib.hid h3
      clear h1 h2 h3
      go_wp2_with fail
      go_returns
      rw [HAL.out]
      exact ⟨k, HE.out, by rw [H1.out, H2.out, H3.out]; rfl, (Below.refl _ _).alloc (Nat.le_refl _) _⟩
end Go.Proofs.YtbkapklnfnopeaaDoor
