/- ansi.Writer's Write of a plain text over a padding.Writer. (Printed by gen/mkq.py.) -/
import Derived.Test.YtbibokkclejapaaDoorIndQRune
namespace Go.Proofs.YtbibokkclejapaaDoor
open Go.RowKit
set_option linter.unusedVariables false
set_option linter.unusedSimpArgs false
variable {X : Nat → Prop}

def QAwPost (X : Nat → Prop) (B ab pw ab2 m : Nat) (l bs : List UInt8) (w : World) (e : Ending) (w' : World) : Prop :=
  e = .returned (.tuple #[.int .i64 (bs.length : Nat), .nilIface]) ∧ SP X B ab pw ab2 m w' (l ++ bs) ∧ SOn X B ab pw ab2 w w'

set_option maxRecDepth 100000 in
set_option maxHeartbeats 1000000 in
theorem qaw_write (B ab pw ab2 m : Nat) (l bs : List UInt8) (a : Option Addr) (c : Nat) (w : World) (h : SP X B ab pw ab2 m w l) (ht : TextAt w a bs.length c (tx bs)) (hm : m ≤ 1000) (hp : Pla bs) (hl : (padP m 0 (l ++ bs)).length + m ≤ 900000) (hl2 : (l ++ bs).length ≤ 800000) :
    Calls Tryd.prog 53 #[.pointer (some ⟨ab, 0, none⟩), .slice a bs.length c] w (QAwPost X B ab pw ab2 m l bs w) := by
  have hcv := ht.2 w (Below.refl _ _)
  obtain ⟨s, hs⟩ : ∃ s, s = tx bs := ⟨_, rfl⟩
  obtain ⟨n, hn⟩ : ∃ n, n = bs.length := ⟨_, rfl⟩
  have hsn : s.size = n := by rw [hs, tx_size, hn]
  have hlt := h.lt
  have H := Go.Lib.hid h
  have HP := Go.Lib.hid hp
  have HS := Go.Lib.hid hs
  have HN := Go.Lib.hid hn
  have HL : Hid (∀ k, k < bs.length → (padP m 0 (l ++ bs.take (k + 1))).length + m ≤ 900000 ∧ (l ++ bs.take k).length + 1 ≤ 800000) := fun k hk => by
    have h1 := padP_append m (bs.drop (k + 1)) (l ++ bs.take (k + 1)) 0
    rw [List.append_assoc, List.take_append_drop] at h1
    rw [h1, List.length_append] at hl
    rw [List.length_append] at hl2 ⊢
    rw [List.length_take]
    omega
  have HZ := Go.Lib.hid hlt
  rw [← hs, ← hn] at hcv
  rw [← hn]
  have hgo : QAwPost X B ab pw ab2 m l bs w = QAwPost X B ab pw ab2 m l bs w := rfl
  have hn2 : n ≤ 900000 := by
    rw [List.length_append] at hl2
    omega
  clear ht hs hn h hp hl hl2 hlt hgo
  go_enter Tryd.func53, Tryd.ntmps53
  go_wp2_with fail
  go_loopw [] (fun wr => ∃ k : Nat, k ≤ n ∧ wr.heap[w.heap.size]? = some (.stringIter s k) ∧ Hid (SP X B ab pw ab2 m wr (l ++ bs.take k)) ∧ Hid (SOn X B ab pw ab2 w wr)) (fun wr => s.size - wr.iterPos w.heap.size)
  case atStart =>
    have hb : Below w.heap.size w (w.iter s 0) := (Below.refl _ _).alloc (Nat.le_refl _) _
    exact ⟨0, Nat.zero_le _, World.iter_heap w s 0, Go.Lib.hid (by simpa using H.out.below hb), SOn.of hb HZ.out.2⟩
  case round =>
    obtain ⟨k, hk, hit, HW, HO⟩ := hrel
    by_cases hlt : k < n
    · have hks : k < s.size := by omega
      obtain ⟨z, hz⟩ : ∃ z, z = s[k]'hks := ⟨_, rfl⟩
      have hkb : k < bs.length := by rw [← HN.out]; exact hlt
      have hzb : z = bs[k] := by
        have h1 := HS.out
        subst h1
        rw [hz]; rfl
      have hzp := HP.out z (by rw [hzb]; exact List.getElem_mem _)
      have hzp2 : z.toNat = 10 ∨ (32 ≤ z.toNat ∧ z.toNat ≤ 126) := by
        rcases hzp with h | h
        · left; rw [h]; rfl
        · exact .inr h
      have hz1 : z.toNat < 128 := by omega
      have q1 : (((z.toNat : Nat) : Int) == 27) = false := by
        simp; omega
      have hnx : ∀ ty, (Instr.next (.pointer (some ⟨w.heap.size, 0, none⟩)) true ty).run Tryd.prog wr = _ := fun ty => Go.Lib.run_next_ascii_at wr w.heap.size s k ty hit hks (by rw [← hz]; exact hz1)
      rw [← hz] at hnx
      have HTK : Hid (l ++ bs.take k ++ [z] = l ++ bs.take (k + 1)) := by
        show _ = _
        rw [hzb, List.append_assoc, List.take_add_one, List.getElem?_eq_getElem hkb]; rfl
      have hW1 := HW.out.iterAt hit (k + 1)
      have hO1 := HO.out.iterAt HZ.out.2 (Nat.le_refl _) s (k + 1)
      have hi1 := Go.Lib.iterAt_heap wr w.heap.size s k (k + 1) hit
      have hm1 := iterPos_at hit
      obtain ⟨W1, hW⟩ : ∃ W, W = wr.iterAt w.heap.size s (k + 1) := ⟨_, rfl⟩
      rw [← hW] at hnx hW1 hO1 hi1
      have hc1 : W1.cell? ⟨ab, 1, none⟩ = some (.bool false) := by
        obtain ⟨R, h⟩ := hW1
        exact h.c1
      have hza := hW1.lt.1
      have HSW := Go.Lib.hid hW1
      have HR := Go.Lib.hid (qrune_any B ab pw ab2 m (l ++ bs.take k) z W1 hW1 hm (by rw [HTK.out]; exact (HL.out k hkb).1) (HL.out k hkb).2 (fun c hc => by rw [List.mem_singleton] at hc; rw [hc]; exact hzp))
      have H1 := Go.Lib.hid (And.intro hO1 (And.intro hi1 hm1))
      clear hW1 hO1 hi1 hm1 hW hit hzp hzp2 hzb hz HW HO
      go_wp2_with fail
      refine HR.out.mono ?_
      rintro e w3 ⟨rfl, s3, o3⟩
      have H3 := Go.Lib.hid (And.intro s3 o3)
      clear s3 o3
      go_wp2_with fail
      go_roundw
      case rel =>
        refine ⟨k + 1, by omega, H3.out.2.it HSW.out H1.out.2.1, ?_, H1.out.1.trans H3.out.2⟩
        have := H3.out.1
        rw [HTK.out] at this
        exact this
      case measure =>
        have h1 := iterPos_at (H3.out.2.it HSW.out H1.out.2.1)
        have h2 := H1.out.2.2
        omega
    · have hkn : k = n := by omega
      have hnx : ∀ ty, (Instr.next (.pointer (some ⟨w.heap.size, 0, none⟩)) true ty).run Tryd.prog wr = _ := fun ty => Go.Lib.run_next_end_at wr w.heap.size s k ty hit (by omega)
      have HE := Go.Lib.hid hkn
      clear hkn hit
      go_wp2_with fail
      go_returns
      refine ⟨by rw [← HN.out]; rfl, ?_, HO.out⟩
      have := HW.out
      rw [HE.out, HN.out, List.take_length] at this
      exact this
end Go.Proofs.YtbibokkclejapaaDoor
