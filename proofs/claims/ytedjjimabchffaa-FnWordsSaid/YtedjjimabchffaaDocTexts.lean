/- The text ahead of a cursor and behind it. -/
import Derived.Test.YtedjjimabchffaaDocBase
import Derived.Test.YtedjjimabchffaaLinesPlain
namespace Go.Proofs.Ytedjjimabchffaa
open Go.RowKit
set_option linter.unusedVariables false
set_option linter.unusedSimpArgs false

theorem add_plain (B k j : Nat) : (⟨B, k, none⟩ : Addr).add j = ⟨B, k + j, none⟩ := by
  unfold Addr.add
  by_cases e : j = 0
  · rw [if_pos e, e]; rfl
  · rw [if_neg e]

/-- Some of a text's code points that lie in memory, as a text. -/
theorem conv_sub (W : World) (B i n cap : Nat) (s : ByteArray) (ha : IsAscii s) (h : i + n ≤ s.size) (hc : ∀ j, i ≤ j → j < i + n → W.cell? ⟨B, j, none⟩ = some (.int .i32 (nth (runes s) j))) :
    (convert 53 9 (.slice (some ⟨B, i, none⟩) n cap)).run Try.prog W = .ok (.string (s.extract i (i + n))) W := by
  have hl := runes_ascii_length s ha
  have := run_convert_runes (P := Try.prog) W 53 9 21 ⟨B, i, none⟩ n cap (((runes s).drop i).take n) (by simp; omega) Try.underlying53 Try.underlying21 Try.underlying9 (fun j hj => by
    simp at hj
    rw [add_plain, hc (i + j) (by omega) (by omega)]
    unfold nth
    simp [List.getD, List.getElem?_take_of_lt (show j < n by omega)])
  rw [this, List.take_of_length_le (by simp; omega), show n = i + n - i by omega, runesBytes_sub s ha]
  rw [show i + (i + n - i) = i + n by omega]

theorem conv_none (W : World) (a : Option Addr) (cap : Nat) : (convert 53 9 (.slice a 0 cap)).run Try.prog W = .ok (.string ⟨#[]⟩) W := by
  cases a with
  | none => exact run_convert_runes_nil (P := Try.prog) W 53 9 21 0 cap Try.underlying53 Try.underlying21 Try.underlying9
  | some a =>
    have := run_convert_runes (P := Try.prog) W 53 9 21 a 0 cap [] (Nat.zero_le _) Try.underlying53 Try.underlying21 Try.underlying9 (fun j hj => by simp at hj)
    rw [show (⟨#[]⟩ : ByteArray) = ByteArray.empty from rfl]
    simpa [runesBytes] using this

theorem sizeI32 (w : World) : (sizeOf (Try.prog.elem 53)).run Try.prog w = .ok 1 w := by kernel_rfl

/-- A slice's tail: its address is known where something stands in it. -/
theorem run_cut {P : Program} (t e : TypeId) (ht : P.underlying t = some (.slice e)) (hi : ∀ w, (sizeOf (P.elem t)).run P w = .ok 1 w) (g o n cap l : Nat) (l' : Int) (hl' : l' = l) (hl : l ≤ n) (hc : n ≤ cap) :
    ∃ A, (∀ w, (Instr.slice t (.slice (some ⟨g, o, none⟩) n cap) (some (.int .i64 l')) none none).run P w = .ok (.slice A (n - l) (cap - l)) w) ∧ (l < cap → A = some ⟨g, o + l, none⟩) := by
  subst hl'
  refine ⟨if cap = l then some ⟨g, o, none⟩ else some ⟨g, o + l, none⟩, fun w => ?_, fun h => by rw [if_neg (by omega)]⟩
  have he : P.elem t = e := by simp [Program.elem, ht]
  rw [run_slice_l w t _ n cap (by rw [he]; exact ht) .i64 l (by omega) (by omega), hi]
  simp only [Result.andThen, sliced, Nat.mul_one, Int.toNat_natCast]
  by_cases h : cap = l
  · rw [if_pos h, if_pos h]
  · rw [if_neg h, if_neg h]
    simp only [Option.map_some, Addr.add]
    by_cases h0 : l = 0
    · rw [if_pos h0, h0]; rfl
    · rw [if_neg h0]

/-- The tail of the code points that were just made of a text, as a text. -/
theorem conv_tail (W : World) (A : Option Addr) (B k cap : Nat) (s : ByteArray) (ha : IsAscii s) (hk : k ≤ s.size) (hcap : s.size ≤ cap) (hA : k < cap → A = some ⟨B, 0 + k, none⟩) (hc : ∀ j, j < s.size → W.cell? ⟨B, j, none⟩ = some (.int .i32 (nth (runes s) j))) (c2 : Nat) :
    (convert 53 9 (.slice A (s.size - k) c2)).run Try.prog W = .ok (.string (s.extract k s.size)) W := by
  by_cases h : k = s.size
  · subst h
    rw [Nat.sub_self, conv_none]
    have : s.extract s.size s.size = ⟨#[]⟩ := by
      apply ba_ext; rw [extract_list]; simp
    rw [this]
  · rw [hA (by omega), Nat.zero_add]
    have := conv_sub W B k (s.size - k) c2 s ha (by omega) (fun j h1 h2 => hc j (by omega))
    rwa [show k + (s.size - k) = s.size by omega] at this

theorem before_any (b : Nat) (s : ByteArray) (k : Nat) (w : World) (hd : DocAt w b s k) (hs : Small s) (hk : k ≤ s.size) :
    Calls Try.prog 29 #[.pointer (some ⟨b, 0, none⟩)] w fun e w' => e = .returned (.string (s.extract 0 k)) ∧ Below w.heap.size w w' := by
  obtain ⟨c0, c1, hb⟩ := hd
  obtain ⟨ha, hsz⟩ := hs
  have hcv := fun w => run_runes (P := Try.prog) w 9 53 21 s Try.underlying9 Try.underlying53 Try.underlying21 (by omega)
  have hl := runes_ascii_length s ha
  have hcap := runeCap_ge w 21 s
  have hrow : ∀ j, j < s.size → (runeCells s (runeCap w 21 s))[j]? = some (.int .i32 (nth (runes s) j)) := fun j hj => runeCells_at s _ j (by omega)
  rw [hl] at hcv hcap
  obtain ⟨cap, hcp⟩ : ∃ cap, cap = runeCap w 21 s := ⟨_, rfl⟩
  have hcv0 := hcv w
  rw [← hcp] at hcv0 hcap hrow
  have hconv : (convert 53 9 (.slice (some ⟨w.heap.size, 0, none⟩) k cap)).run Try.prog (w.alloc (.cells (runeCells s cap) 21)).drew = .ok (.string (s.extract 0 k)) (w.alloc (.cells (runeCells s cap) 21)).drew := by
    have := conv_sub (w.alloc (.cells (runeCells s cap) 21)).drew w.heap.size 0 k cap s ha (by omega) (fun j _ h2 => by simp [hrow j (by omega)])
    simpa using this
  have hk0 : (0 : Int) ≤ k := by omega
  have hk1 : (k : Int) ≤ cap := by omega
  clear hcv hl hrow ha hcp
  go_enter Try.func29, Try.ntmps29
  go_wp2_with fail
  go_returns
  exact ⟨rfl, ((Below.refl _ _).alloc (Nat.le_refl _) _).drew⟩

theorem after_any (b : Nat) (s : ByteArray) (k : Nat) (w : World) (hd : DocAt w b s k) (hs : Small s) (hk : k ≤ s.size) :
    Calls Try.prog 30 #[.pointer (some ⟨b, 0, none⟩)] w fun e w' => e = .returned (.string (s.extract k s.size)) ∧ Below w.heap.size w w' := by
  obtain ⟨c0, c1, hb⟩ := hd
  obtain ⟨ha, hsz⟩ := hs
  have hcv := fun w => run_runes (P := Try.prog) w 9 53 21 s Try.underlying9 Try.underlying53 Try.underlying21 (by omega)
  have hl := runes_ascii_length s ha
  have hcap := runeCap_ge w 21 s
  have hrow : ∀ j, j < s.size → (runeCells s (runeCap w 21 s))[j]? = some (.int .i32 (nth (runes s) j)) := fun j hj => runeCells_at s _ j (by omega)
  rw [hl] at hcv hcap
  obtain ⟨cap, hcp⟩ : ∃ cap, cap = runeCap w 21 s := ⟨_, rfl⟩
  have hcv0 := hcv w
  rw [← hcp] at hcv0 hcap hrow
  obtain ⟨A, hA, hA2⟩ := run_cut (P := Try.prog) 53 21 Try.underlying53 sizeI32 w.heap.size 0 s.size cap k k rfl hk hcap
  have hconv : (convert 53 9 (.slice A (s.size - k) (cap - k))).run Try.prog (w.alloc (.cells (runeCells s cap) 21)).drew = .ok (.string (s.extract k s.size)) (w.alloc (.cells (runeCells s cap) 21)).drew :=
    conv_tail _ A w.heap.size k cap s ha hk hcap hA2 (fun j hj => by simp [hrow j hj]) _
  clear hcv hl hrow ha hcp hA2
  go_enter Try.func30, Try.ntmps30
  go_wp2_with fail
  go_returns
  exact ⟨rfl, ((Below.refl _ _).alloc (Nat.le_refl _) _).drew⟩
end Go.Proofs.Ytedjjimabchffaa
