/- goprompt.zzTruncate with three points; zzFillRight where nothing is lacking. -/
import Derived.Test.YtjdphehphceegaaColWidth
namespace Go.Proofs.Ytjdphehphceegaa
open Go.RowKit
set_option linter.unusedVariables false
set_option linter.unusedSimpArgs false

theorem prt_dots : Prt ⟨#[46, 46, 46]⟩ := fun k h => by
  have : ∀ k : Fin 3, 32 ≤ ((⟨#[46, 46, 46]⟩ : ByteArray)[k.val]'k.isLt).toNat ∧ ((⟨#[46, 46, 46]⟩ : ByteArray)[k.val]'k.isLt).toNat ≤ 126 := by decide +kernel
  exact this ⟨k, h⟩

def cutDots (s : ByteArray) (n : Nat) : ByteArray := s.extract 0 (n - 3) ++ ⟨#[46, 46, 46]⟩

set_option maxHeartbeats 1000000 in
theorem truncate_any (s : ByteArray) (n : Nat) (h : Prt s) (hs : s.size ≤ 1000) (h3 : 3 ≤ n) (hn : n < s.size) (w : World) : Calls Try.prog 17 #[.string s, .int .i64 n, .string ⟨#[46, 46, 46]⟩] w fun e w' => e = .returned (.string (cutDots s n)) ∧ Below w.heap.size w w' := by
  have HP := Go.Lib.hid h
  have HW := Go.Lib.hid fun w => width_any s h (by omega) w
  have HD := Go.Lib.hid fun w => width_any ⟨#[46, 46, 46]⟩ prt_dots (by decide) w
  have HN : Hid (cutDots s n = s.extract 0 (n - 3) ++ ⟨#[46, 46, 46]⟩) := rfl
  generalize cutDots s n = res at HN ⊢
  clear h
  have q1 : decide ((s.size : Int) ≤ n) = false := by simp; omega
  have hsub : IntKind.i64.wrap ((n : Int) - 3) = ((n - 3 : Nat) : Int) := by rw [IntWalk.i64_in _ (by omega)]; omega
  obtain ⟨m, hm⟩ : ∃ m, m = n - 3 := ⟨_, rfl⟩
  rw [← hm] at hsub HN
  have hms : m < s.size := by omega
  clear hm
  go_enter Try.func17, Try.ntmps17
  go_wp2_with fail
  refine (HW.out w).mono ?_
  rintro e w1 ⟨rfl, k1⟩
  have K1 := Go.Lib.hid k1
  clear k1
  go_wp2_with fail
  refine (HD.out w1).mono ?_
  rintro e w2 ⟨rfl, k2⟩
  have K2 := Go.Lib.hid (K1.out.trans (k2.mono K1.out.size))
  clear k2
  have hsz3 : ((⟨#[46, 46, 46]⟩ : ByteArray).size : Int) = 3 := rfl
  go_wp2_with fail
  go_loopw [7] (fun x wr => ∃ k : Nat, k ≤ m ∧ x = .int .i64 k ∧ wr = w2.iter s k) (fun _ wr => s.size - wr.iterPos w2.heap.size)
  case atStart => exact ⟨0, Nat.zero_le _, rfl, rfl⟩
  case round =>
    obtain ⟨k, hk, rfl, rfl⟩ := hrel
    have hlt : k < s.size := by omega
    have hnx : ∀ ty, (Instr.next (.pointer (some ⟨w2.heap.size, 0, none⟩)) true ty).run Try.prog (w2.iter s k) = _ := fun ty => run_next_any w2 s k ty hlt
    obtain ⟨p1, p2⟩ := HP.out k hlt
    rw [decode_ascii s k hlt (by omega)] at hnx
    generalize (s[k]'hlt).toNat = z at hnx p1 p2
    dsimp only at hnx
    have HR := Go.Lib.hid fun w => room1_any z p1 p2 w
    clear p1 p2
    by_cases hkm : k < m
    · have q2 : decide ((m : Int) < (k : Int) + 1) = false := by simp; omega
      go_wp2_with fail
      refine (HR.out _).mono ?_
      rintro e w3 ⟨rfl, rfl⟩
      go_wp2_with fail
      refine (HR.out _).mono ?_
      rintro e w3 ⟨rfl, rfl⟩
      go_wp2_with fail
      go_roundw
      case rel => exact ⟨k + 1, by omega, by go_num, rfl⟩
      case measure => simp; omega
    · obtain rfl : k = m := by omega
      have q3 : (k : Int) ≤ s.size := by omega
      go_wp2_with fail
      refine (HR.out _).mono ?_
      rintro e w3 ⟨rfl, rfl⟩
      go_wp2_with fail
      go_returns
      exact ⟨by rw [HN.out]; rfl, K2.out.alloc K2.out.size _⟩

theorem fill_any (s : ByteArray) (n : Nat) (h : Prt s) (hs : s.size ≤ 1000) (hn : n ≤ s.size) (w : World) : Calls Try.prog 18 #[.string s, .int .i64 n] w fun e w' => e = .returned (.string s) ∧ Below w.heap.size w w' := by
  have HW := Go.Lib.hid fun w => width_any s h (by omega) w
  have q1 : decide ((s.size : Int) < n) = false := by simp; omega
  clear h
  go_enter Try.func18, Try.ntmps18
  go_wp2_with fail
  refine (HW.out w).mono ?_
  rintro e w1 ⟨rfl, k1⟩
  have K1 := Go.Lib.hid k1
  clear k1
  go_wp2_with fail
  go_loop [0, 5] (fun t x => t = .string s ∧ x = .int .i64 (s.size : Nat)) (fun _ _ => 0)
  case atStart => exact ⟨rfl, rfl⟩
  case round =>
    obtain ⟨rfl, rfl⟩ := hrel
    go_wp2_with fail
    go_returns
    exact ⟨rfl, K1.out⟩

theorem cutDots_size (s : ByteArray) (n : Nat) (h3 : 3 ≤ n) (hn : n < s.size) : (cutDots s n).size = n := by
  unfold cutDots
  rw [ByteArray.size_append, ByteArray.size_extract]
  show min (n - 3) s.size - 0 + 3 = n
  omega
theorem prt_iff (s : ByteArray) : Prt s ↔ ∀ b ∈ s.data.toList, 32 ≤ b.toNat ∧ b.toNat ≤ 126 := by
  constructor
  · intro h b hb
    obtain ⟨k, hk, rfl⟩ := List.getElem_of_mem hb
    exact h k (by simpa using hk)
  · intro h k hk
    have hk' : k < s.data.toList.length := by simpa using hk
    exact h _ (List.getElem_mem hk')
theorem prt_cut (s : ByteArray) (n : Nat) (h : Prt s) : Prt (cutDots s n) := by
  rw [prt_iff] at h ⊢
  intro b hb
  have e : (cutDots s n).data.toList = (s.extract 0 (n - 3)).data.toList ++ [46, 46, 46] := by
    unfold cutDots; simp
  rw [e, List.mem_append] at hb
  rcases hb with hb | hb
  · rw [extract_list] at hb
    exact h b (List.mem_of_mem_drop (List.mem_of_mem_take hb))
  · have : ∀ b ∈ ([46, 46, 46] : List UInt8), 32 ≤ b.toNat ∧ b.toNat ≤ 126 := by decide
    exact this b hb
end Go.Proofs.Ytjdphehphceegaa
