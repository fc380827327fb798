/- ansi.Writer's Write of a text without sequences. -/
import Derived.Test.YtbibokkclejapaaDoorIndText
namespace Go.Proofs.YtbibokkclejapaaDoor
open Go.RowKit
set_option linter.unusedVariables false
set_option linter.unusedSimpArgs false
variable {X : Nat → Prop}

/-- A text's bytes. -/
def tx (l : List UInt8) : ByteArray := ⟨l.toArray⟩
theorem tx_size (l : List UInt8) : (tx l).size = l.length := by simp [tx, ByteArray.size]
theorem tx_get (l : List UInt8) (k : Nat) (h : k < (tx l).size) (h' : k < l.length) : (tx l)[k]'h = l[k] := rfl
def AwPost (X : Nat → Prop) (B ab b q : Nat) (l bs : List UInt8) (w : World) (e : Ending) (w' : World) : Prop :=
  e = .returned (.tuple #[.int .i64 (bs.length : Nat), .nilIface]) ∧ SW X B ab b q w' (l ++ bs) ∧ On X B ab b q w w'

set_option maxRecDepth 100000 in
set_option maxHeartbeats 1000000 in
theorem aw_write (B ab b q : Nat) (l bs : List UInt8) (a : Option Addr) (c : Nat) (w : World) (h : SW X B ab b q w l) (ht : TextAt w a bs.length c (tx bs)) (hp : ∀ c ∈ bs, c.toNat < 128 ∧ c.toNat ≠ 27) (hl : l.length + bs.length ≤ 900000) :
    Calls Tryd.prog 53 #[.pointer (some ⟨ab, 0, none⟩), .slice a bs.length c] w (AwPost X B ab b q l bs w) := by
  have hcv := ht.2 w (Below.refl _ _)
  obtain ⟨s, hs⟩ : ∃ s, s = tx bs := ⟨_, rfl⟩
  obtain ⟨n, hn⟩ : ∃ n, n = bs.length := ⟨_, rfl⟩
  have hsn : s.size = n := by rw [hs, tx_size, hn]
  have hlt := h.lt
  have H := Go.Lib.hid h
  have HP := Go.Lib.hid hp
  have HS := Go.Lib.hid hs
  have HN := Go.Lib.hid hn
  have HL := Go.Lib.hid hl
  have HZ := Go.Lib.hid hlt
  rw [← hs, ← hn] at hcv
  rw [← hn]
  have hgo : AwPost X B ab b q l bs w = AwPost X B ab b q l bs w := rfl
  clear ht hs hn h hp hl hlt hgo
  have hn2 : n ≤ 900000 := by have := HL.out; rw [← HN.out] at this; omega
  go_enter Tryd.func53, Tryd.ntmps53
  go_wp2_with fail
  go_loopw [] (fun wr => ∃ k : Nat, k ≤ n ∧ wr.heap[w.heap.size]? = some (.stringIter s k) ∧ Hid (SW X B ab b q wr (l ++ bs.take k)) ∧ Hid (On X B ab b q w wr)) (fun wr => s.size - wr.iterPos w.heap.size)
  case atStart =>
    have hb : Below w.heap.size w (w.iter s 0) := (Below.refl _ _).alloc (Nat.le_refl _) _
    exact ⟨0, Nat.zero_le _, World.iter_heap w s 0, Go.Lib.hid (by simpa using H.out.below hb), On.of hb HZ.out.2.2.1 HZ.out.1⟩
  case round =>
    obtain ⟨k, hk, hit, HW, HO⟩ := hrel
    by_cases hlt : k < n
    · have hks : k < s.size := by omega
      obtain ⟨z, hz⟩ : ∃ z, z = s[k]'hks := ⟨_, rfl⟩
      have hkb : k < bs.length := by rw [← HN.out]; exact hlt
      have hzb : z = bs[k] := by
        have h1 := HS.out
        subst h1
        rw [hz]; rfl
      have hzp := HP.out z (by rw [hzb]; exact List.getElem_mem _)
      have hz1 := hzp.1
      have q1 : (((z.toNat : Nat) : Int) == 27) = false := by
        have := hzp.2
        simp; omega
      have hnx : ∀ ty, (Instr.next (.pointer (some ⟨w.heap.size, 0, none⟩)) true ty).run Tryd.prog wr = _ := fun ty => Go.Lib.run_next_ascii_at wr w.heap.size s k ty hit hks (by rw [← hz]; exact hz1)
      rw [← hz] at hnx
      have HTK : Hid (l ++ bs.take k ++ [z] = l ++ bs.take (k + 1)) := by
        show _ = _
        rw [hzb, List.append_assoc, List.take_add_one, List.getElem?_eq_getElem hkb]; rfl
      have hW1 := HW.out.iterAt hit (k + 1)
      have hO1 := HO.out.iterAt HZ.out.2.2.1 (Nat.ne_of_lt HZ.out.1) (Nat.le_refl _) s (k + 1)
      have hi1 := Go.Lib.iterAt_heap wr w.heap.size s k (k + 1) hit
      have hm1 := iterPos_at hit
      obtain ⟨W1, hW⟩ : ∃ W, W = wr.iterAt w.heap.size s (k + 1) := ⟨_, rfl⟩
      rw [← hW] at hnx hW1 hO1 hi1
      have hc1 : W1.cell? ⟨ab, 1, none⟩ = some (.bool false) := by
        obtain ⟨A, R, h⟩ := hW1
        exact h.c1
      have hza := hW1.lt.2.1
      have HSW := Go.Lib.hid hW1
      have HR := Go.Lib.hid (rune_any B ab b q (l ++ bs.take k) z W1 hW1 (by have := HL.out; rw [List.length_append, List.length_take]; omega) hz1)
      have H1 := Go.Lib.hid (And.intro hO1 (And.intro hi1 hm1))
      clear hW1 hO1 hi1 hm1 hW hit hzp hzb hz HW HO
      go_wp2_with fail
      refine HR.out.mono ?_
      rintro e w3 ⟨rfl, s3, o3⟩
      have H3 := Go.Lib.hid (And.intro s3 o3)
      clear s3 o3
      go_wp2_with fail
      go_roundw
      case rel =>
        refine ⟨k + 1, by omega, H3.out.2.it HSW.out H1.out.2.1, ?_, H1.out.1.trans H3.out.2⟩
        have := H3.out.1
        rw [HTK.out] at this
        exact this
      case measure =>
        have h1 := iterPos_at (H3.out.2.it HSW.out H1.out.2.1)
        have h2 := H1.out.2.2
        omega
    · have hkn : k = n := by omega
      have hnx : ∀ ty, (Instr.next (.pointer (some ⟨w.heap.size, 0, none⟩)) true ty).run Tryd.prog wr = _ := fun ty => Go.Lib.run_next_end_at wr w.heap.size s k ty hit (by omega)
      have HE := Go.Lib.hid hkn
      clear hkn hit
      go_wp2_with fail
      go_returns
      refine ⟨by rw [← HN.out]; rfl, ?_, HO.out⟩
      have := HW.out
      rw [HE.out, HN.out, List.take_length] at this
      exact this
end Go.Proofs.YtbibokkclejapaaDoor
