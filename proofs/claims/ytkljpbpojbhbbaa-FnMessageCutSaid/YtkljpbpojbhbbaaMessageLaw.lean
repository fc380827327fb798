/- The walk of laws.FnMessageCut: a whole message is one, what is cut off is none. -/
import Derived.Test.YtkljpbpojbhbbaaMessageRead
namespace Go.Proofs.Ytkljpbpojbhbbaa
open Go.RowKit
set_option linter.unusedVariables false
set_option linter.unusedSimpArgs false

def NoPost (w : World) (e : Ending) (w' : World) : Prop := e = .returned (.tuple #[.int .i64 0, .string ⟨#[]⟩, .string ⟨#[]⟩, .bool false]) ∧ Below w.heap.size w w'

theorem impl_short (s : ByteArray) (w : World) (hs : s.size < 4) :
    Calls Try.prog 12 #[.string s] w (NoPost w) := by
  have hmf : ∀ (fn : Fn) (first cap : Array Value) (w : World), (Instr.makeFunc fn first cap).run Try.prog w = .ok (.func fn first cap) w := fun _ _ _ _ => rfl
  have hd : decide ((4 : Int) ≤ (s.size : Int)) = false := by simp; omega
  go_enter Try.func12, Try.ntmps12
  go_wp2_with fail
  go_quiet (fail)
  go_wp2_with fail
  refine (caught_err s w.heap.size (.pointer none) (.slice none 0 0) .nilIface _ ?_ ?_ ?_).mono ?_
  · unfold maxLen; omega
  · constructor <;> simp [go_sem]
  · exact fun g cap W _ => read_short _ _ _ _ hs
  rintro e w1 ⟨p, rfl, hb, h3⟩
  have hb' : Below w.heap.size w w1 := ((((below_drewN ((Below.refl _ _).alloc (Nat.le_refl _) _) nq).alloc (by simp) _).alloc (by simp; omega) _).alloc (by simp; omega) _).trans hb
  go_wp2_with fail
  go_returns
  exact ⟨rfl, hb'⟩

/-- The bytes that a message of at most 1002 bytes begins with. -/
structure Begins (s : ByteArray) (hi lo : Nat) : Prop where
  h4 : 4 ≤ s.size
  e0 : (s[0]'(by omega)).toNat = 0
  e1 : (s[1]'(by omega)).toNat = 0
  e2 : (s[2]'(by omega)).toNat = hi
  e3 : (s[3]'(by omega)).toNat = lo
  hh : hi ≤ 3
  hl : lo ≤ 255

theorem Begins.head {s : ByteArray} {hi lo : Nat} (h : Begins s hi lo) {W : World} {g cap : Nat} (hb : Bytes W g cap s) (L : Int) (e : (hi * 256 + lo : Int) = L) : Head W g hi lo L := by
  have h4 := h.h4
  have c0 := hb.2.2 0 (by omega)
  have c1 := hb.2.2 1 (by omega)
  have c2 := hb.2.2 2 (by omega)
  have c3 := hb.2.2 3 (by omega)
  rw [byteAt_eq s _ (by omega)] at c0 c1 c2 c3
  rw [h.e0] at c0
  rw [h.e1] at c1
  rw [h.e2] at c2
  rw [h.e3] at c3
  exact ⟨c0, c1, c2, c3, by omega, by have := h.hh; omega, by omega, by have := h.hl; omega, e⟩

theorem or_len (hi lo : Nat) (hh : hi ≤ 3) (hl : lo ≤ 255) : bits .or .i64 ((hi : Int) * 256) (lo : Int) = (hi : Int) * 256 + lo :=
  bits_join .i64 63 (by decide) (fun n h0 h1 => IntWalk.i64_in n ⟨by omega, by simp at h1; omega⟩) 8 _ _ (by omega) (by simp) (by simp; omega) (by omega) (by simp; omega) (by simp; omega)

theorem impl_over (s : ByteArray) (hi lo : Nat) (w : World) (hs : s.size ≤ 2000) (hb : Begins s hi lo) (hL : s.size < hi * 256 + lo) :
    Calls Try.prog 12 #[.string s] w (NoPost w) := by
  obtain ⟨h4, e0, e1, e2, e3, hh, hl⟩ := hb
  have eo := or_len hi lo hh hl
  have hd : decide ((4 : Int) ≤ (s.size : Int)) = true := by simp; omega
  have i0 : (0 : Int) < s.size := by omega
  have i1 : (1 : Int) < s.size := by omega
  have i2 : (2 : Int) < s.size := by omega
  have i3 : (3 : Int) < s.size := by omega
  have hlt : (s.size : Int) < (hi : Int) * 256 + lo := by omega
  go_enter Try.func12, Try.ntmps12
  go_wp2_with fail
  go_quiet (fail)
  go_wp2_with fail
  go_returns
  exact ⟨rfl, below_drewN ((Below.refl _ _).alloc (Nat.le_refl _) _) _⟩

theorem impl_cut (s : ByteArray) (hi lo : Nat) (w : World) (hs : s.size ≤ 2000) (hb : Begins s hi lo) (hL : hi * 256 + lo ≤ s.size) (hM : s.size < hi * 256 + lo + 4) (h2 : 2 ≤ hi * 256 + lo) (h1002 : hi * 256 + lo ≤ 1002) (hk : ∀ h : 4 < s.size, (s[4]'h).toNat ≤ 127) :
    Calls Try.prog 12 #[.string s] w (NoPost w) := by
  have HB := Go.Lib.hid hb
  have HK := Go.Lib.hid hk
  clear hk
  have hmf : ∀ (fn : Fn) (first cap : Array Value) (w : World), (Instr.makeFunc fn first cap).run Try.prog w = .ok (.func fn first cap) w := fun _ _ _ _ => rfl
  obtain ⟨h4, e0, e1, e2, e3, hh, hl⟩ := hb
  have eo := or_len hi lo hh hl
  have hd : decide ((4 : Int) ≤ (s.size : Int)) = true := by simp; omega
  have i0 : (0 : Int) < s.size := by omega
  have i1 : (1 : Int) < s.size := by omega
  have i2 : (2 : Int) < s.size := by omega
  have i3 : (3 : Int) < s.size := by omega
  have hlt : ¬ (s.size : Int) < (hi : Int) * 256 + lo := by omega
  have hlt' : decide ((s.size : Int) < (hi : Int) * 256 + lo) = false := by simpa using hlt
  go_enter Try.func12, Try.ntmps12
  go_wp2_with fail
  go_quiet (fail)
  go_wp2_with fail
  refine (caught_err s w.heap.size (.pointer none) (.slice none 0 0) .nilIface _ ?_ ?_ ?_).mono ?_
  · unfold maxLen; omega
  · constructor <;> simp [go_sem]
  · intro g cap W hbs
    have hh := HB.out.head hbs ((hi * 256 + lo : Nat) : Int) (by simp)
    by_cases h6 : s.size < 6
    · exact read_less g s.size cap hi lo _ W hh h4 h6 hbs.1 hbs.2.1
    · have c4 := hbs.2.2 4 (by omega)
      have c5 := hbs.2.2 5 (by omega)
      rw [byteAt_eq s _ (by omega)] at c4 c5
      exact read_cut g s.size cap hi lo (hi * 256 + lo) W hh (by omega) hM hbs.1 hbs.2.1 h2 h1002 _ _ c4 c5 (by omega) (by have := HK.out (by omega); omega) (by omega) (by have := UInt8.toNat_lt (s[5]'(by omega)); omega)
  rintro e w1 ⟨p, rfl, hb, h3⟩
  have hb' : Below w.heap.size w w1 := ((((below_drewN ((Below.refl _ _).alloc (Nat.le_refl _) _) nq).alloc (by simp) _).alloc (by simp; omega) _).alloc (by simp; omega) _).trans hb
  go_wp2_with fail
  go_returns
  exact ⟨rfl, hb'⟩

theorem exists_bytes (W : World) (d dl : Nat) (h : ∀ j, j < dl → ∃ x : Nat, x < 256 ∧ W.cell? ⟨d, j, none⟩ = some (.int .u8 x)) :
    ∃ l : List UInt8, l.length = dl ∧ ∀ j (hj : j < l.length), W.cell? ((⟨d, 0, none⟩ : Addr).add j) = some (.int .u8 (l[j].toNat : Int)) := by
  induction dl with
  | zero => exact ⟨[], rfl, fun j hj => by simp at hj⟩
  | succ n ih =>
    obtain ⟨l, hl, hc⟩ := ih fun j hj => h j (by omega)
    obtain ⟨x, hx, he⟩ := h n (by omega)
    have ha : ∀ j, (⟨d, 0, none⟩ : Addr).add j = ⟨d, j, none⟩ := fun j => by
      unfold Addr.add
      by_cases e : j = 0
      · rw [if_pos e, e]
      · rw [if_neg e, Nat.zero_add]
    refine ⟨l ++ [UInt8.ofNat x], by simp [hl], fun j hj => ?_⟩
    by_cases e : j < l.length
    · rw [hc j e, List.getElem_append_left e]
    · obtain rfl : j = l.length := by simp at hj; omega
      subst hl
      rw [ha, he]
      simp [Nat.mod_eq_of_lt hx]

theorem conv_any (W : World) (d dl : Nat) (h : ∀ j, j < dl → ∃ x : Nat, x < 256 ∧ W.cell? ⟨d, j, none⟩ = some (.int .u8 x)) :
    ∃ X, ∀ q, (convert 44 9 (.slice (some ⟨d, 0, none⟩) dl dl)).run Try.prog (W.drewN q) = .ok (.string X) (W.drewN q) := by
  obtain ⟨l, rfl, hc⟩ := exists_bytes W d dl h
  exact ⟨_, fun q => run_convert_bytes_back (P := Try.prog) (W.drewN q) 44 9 5 ⟨d, 0, none⟩ l.length l Try.underlying44 Try.underlying5 Try.underlying9 (fun j hj => by simpa using hc j hj)⟩

theorem conv_none (A : Option Addr) (c : Nat) : ∃ X, ∀ W, (convert 44 9 (.slice A 0 c)).run Try.prog W = .ok (.string X) W := by
  cases A with
  | none =>
    refine ⟨ByteArray.empty, fun W => ?_⟩
    rw [run_convert_bytes_string W 44 9 5 none 0 c Try.underlying44 Try.underlying5 Try.underlying9]
    simp [Conv.bytesToString, Sem.run_pure]
  | some a =>
    exact ⟨_, fun W => run_convert_bytes_back (P := Try.prog) W 44 9 5 a c [] Try.underlying44 Try.underlying5 Try.underlying9 (fun j hj => by simp at hj)⟩

def YesPost (w : World) (e : Ending) (w' : World) : Prop := ∃ k a b, e = .returned (.tuple #[.int .i64 k, .string a, .string b, .bool true]) ∧ Below w.heap.size w w'

theorem impl_full (s : ByteArray) (hi lo : Nat) (w : World) (hs : s.size ≤ 2000) (hb : Begins s hi lo) (hM : s.size = hi * 256 + lo + 4) (h2 : 2 ≤ hi * 256 + lo) (h1002 : hi * 256 + lo ≤ 1002) (hk : ∀ h : 4 < s.size, (s[4]'h).toNat ≤ 127) :
    Calls Try.prog 12 #[.string s] w (YesPost w) := by
  have HB := Go.Lib.hid hb
  have HK := Go.Lib.hid hk
  have HM := Go.Lib.hid hM
  have hm1 : s.size ≤ hi * 256 + lo + 4 := Nat.le_of_eq hM
  have hm2 : hi * 256 + lo + 4 ≤ s.size := Nat.le_of_eq hM.symm
  clear hk hM
  have hmf : ∀ (fn : Fn) (first cap : Array Value) (w : World), (Instr.makeFunc fn first cap).run Try.prog w = .ok (.func fn first cap) w := fun _ _ _ _ => rfl
  obtain ⟨h4, e0, e1, e2, e3, hh, hl⟩ := hb
  have eo := or_len hi lo hh hl
  have hd : decide ((4 : Int) ≤ (s.size : Int)) = true := by simp; omega
  have i0 : (0 : Int) < s.size := by omega
  have i1 : (1 : Int) < s.size := by omega
  have i2 : (2 : Int) < s.size := by omega
  have i3 : (3 : Int) < s.size := by omega
  have hlt : ¬ (s.size : Int) < (hi : Int) * 256 + lo := by omega
  have hlt' : decide ((s.size : Int) < (hi : Int) * 256 + lo) = false := by simpa using hlt
  go_enter Try.func12, Try.ntmps12
  go_wp2_with fail
  go_quiet (fail)
  go_wp2_with fail
  refine (caught_full s w.heap.size (.pointer none) (.slice none 0 0) .nilIface _ ?_ ?_ ?_).mono ?_
  · unfold maxLen; omega
  · constructor <;> simp [go_sem]
  · intro g cap W hbs
    have hh := HB.out.head hbs ((hi * 256 + lo : Nat) : Int) (by simp)
    have c4 := hbs.2.2 4 (by omega)
    have c5 := hbs.2.2 5 (by omega)
    rw [byteAt_eq s _ (by omega)] at c4 c5
    obtain ⟨L, hL⟩ : ∃ L, L = hi * 256 + lo := ⟨_, rfl⟩
    have hM := HM.out
    rw [← hL] at hh h2 h1002 hM
    refine read_full g s.size cap hi lo L W hh hM hbs.1 hbs.2.1 h2 h1002 _ _ c4 c5 (by omega) (by have := HK.out (by omega); omega) (by omega) (by have := UInt8.toNat_lt (s[5]'(by omega)); omega) (s.data.toList.drop 6) ?_ ?_
    · simp; omega
    · intro j hj
      have hj' : 6 + j < s.size := by simp at hj; omega
      rw [hbs.2.2 (6 + j) hj', byteAt]
      congr 2
      simp [List.getD]
  rintro e w1 ⟨m, k, d, dl, A, c, rfl, hb, hf⟩
  have hb' : Below w.heap.size w w1 := ((((below_drewN ((Below.refl _ _).alloc (Nat.le_refl _) _) nq).alloc (by simp) _).alloc (by simp; omega) _).alloc (by simp; omega) _).trans hb
  obtain ⟨p1, p2, p3, m0, hk, m1, hdl, dc⟩ := hf
  go_wp2_with fail
  obtain ⟨X, hX⟩ := conv_any w1 d dl dc
  obtain ⟨Y, hY⟩ := conv_none A c
  have hX0 := hX 0
  clear dc HB HK HM e0 e1 e2 e3 eo hmf
  go_quiet (fail)
  go_wp2_with fail
  go_returns
  exact ⟨k, X, Y, rfl, below_drewN hb' _⟩
end Go.Proofs.Ytkljpbpojbhbbaa
