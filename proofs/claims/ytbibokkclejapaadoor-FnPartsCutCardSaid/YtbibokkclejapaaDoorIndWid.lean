/- ansi.PrintableRuneWidth of plain texts; impl.BufferWidth. -/
import Derived.Test.YtbibokkclejapaaDoorIndPipe
import Derived.Lib.BufferAt
namespace Go.Proofs.YtbibokkclejapaaDoor
open Go.RowKit
set_option linter.unusedVariables false
set_option linter.unusedSimpArgs false

/-- How much room a plain text takes. -/
def wL (l : List UInt8) : Nat := (l.map fun c => widthZ c.toNat).sum
theorem wL_append (a b : List UInt8) : wL (a ++ b) = wL a + wL b := by simp [wL]
theorem wL_le (l : List UInt8) : wL l ≤ l.length := by
  induction l with
  | nil => simp [wL]
  | cons c t ih =>
    have h : widthZ c.toNat ≤ 1 := by unfold widthZ; split <;> omega
    simp [wL] at ih ⊢
    omega
set_option maxRecDepth 100000 in
set_option maxHeartbeats 1000000 in
theorem prw_any (l : List UInt8) (w : World) (hp : Pla l) (hl : l.length ≤ 900000) : Calls Tryd.prog 62 #[.string (tx l)] w fun e w' => e = .returned (.int .i64 (wL l : Nat)) ∧ Below w.heap.size w w' := by
  obtain ⟨s, hs⟩ : ∃ s, s = tx l := ⟨_, rfl⟩
  obtain ⟨m, hm⟩ : ∃ m, m = l.length := ⟨_, rfl⟩
  have hsn : s.size = m := by rw [hs, tx_size, hm]
  have hm2 : m ≤ 900000 := by omega
  have HP := Go.Lib.hid hp
  have HS := Go.Lib.hid hs
  have HN := Go.Lib.hid hm
  rw [← hs]
  clear hs hm hp hl
  go_enter Tryd.func62, Tryd.ntmps62
  go_wp2_with fail
  go_loopw [3, 4] (fun n a wr => ∃ (k x : Nat), k ≤ m ∧ n = .int .i64 (x : Nat) ∧ a = .bool false ∧ wr = w.iter s k ∧ Hid (x = wL (l.take k)) ∧ x ≤ k) (fun _ _ wr => s.size - wr.iterPos w.heap.size)
  case atStart => exact ⟨0, 0, Nat.zero_le _, rfl, rfl, rfl, Go.Lib.hid rfl, Nat.le_refl _⟩
  case round =>
    obtain ⟨k, x, hk, rfl, rfl, rfl, HX, hxk⟩ := hrel
    by_cases hlt : k < m
    · have hks : k < s.size := by omega
      obtain ⟨z, hz⟩ : ∃ z, z = s[k]'hks := ⟨_, rfl⟩
      have hkb : k < l.length := by rw [← HN.out]; exact hlt
      have hzb : z = l[k] := by
        have h1 := HS.out
        subst h1
        rw [hz]; rfl
      have hzp := HP.out z (by rw [hzb]; exact List.getElem_mem _)
      have hzp2 : z.toNat = 10 ∨ (32 ≤ z.toNat ∧ z.toNat ≤ 126) := by
        rcases hzp with h | h
        · left; rw [h]; rfl
        · exact .inr h
      have q1 : (((z.toNat : Nat) : Int) == 27) = false := by simp; omega
      have hnx : ∀ ty, (Instr.next (.pointer (some ⟨w.heap.size, 0, none⟩)) true ty).run Tryd.prog (w.iter s k) = _ := fun ty => run_next_ascii w s k ty hks (by rw [← hz]; omega)
      rw [← hz] at hnx
      have hwl : wL (l.take (k + 1)) = wL (l.take k) + widthZ z.toNat := by
        rw [List.take_add_one, List.getElem?_eq_getElem hkb, Option.toList_some, wL_append, ← hzb]
        simp [wL]
      have HWL := Go.Lib.hid hwl
      have HWD := Go.Lib.hid fun W => width_any z.toNat W hzp2
      obtain ⟨d, hd⟩ : ∃ d, d = widthZ z.toNat := ⟨_, rfl⟩
      have hd1 : d ≤ 1 := by rw [hd]; unfold widthZ; split <;> omega
      rw [← hd] at HWD HWL
      clear hzb hz hzp hwl hd hkb
      go_wp2_with fail
      refine (HWD.out _).mono ?_
      rintro e w2 ⟨rfl, rfl⟩
      go_wp2_with fail
      go_roundw
      case rel => exact ⟨k + 1, x + d, by omega, by go_num, rfl, rfl, Go.Lib.hid (by rw [HWL.out, HX.out]), by omega⟩
      case measure => simp; omega
    · have hE : k = m := by omega
      have hnx : ∀ ty, (Instr.next (.pointer (some ⟨w.heap.size, 0, none⟩)) true ty).run Tryd.prog (w.iter s k) = _ := fun ty => run_next_end w s k ty (by omega)
      have HE : Hid (x = wL l) := by
        have := HX.out
        rw [hE, HN.out, List.take_length] at this
        exact Go.Lib.hid this
      clear hE
      go_wp2_with fail
      go_returns
      exact ⟨by rw [← HE.out]; rfl, (Below.refl _ _).alloc (Nat.le_refl _) _⟩

theorem BA.of_lib {T : TypeId} {R : Nat → Option Value} {B b q : Nat} {l : List UInt8} {w : World} (h : LibA.IsBuffer T R 5 B b q (Lib.byteCells l) w) : ∃ A cap, BA w b q A cap l := by
  obtain ⟨hB, v, lr, h3, hown, hne⟩ := h
  have hlen : (Lib.byteCells l).length = l.length := by simp [Lib.byteCells]
  obtain ⟨_, h2⟩ := hown
  rcases h2 with ⟨rfl, h0⟩ | ⟨g, cap, cur, rfl, hg, hc, hr, hm, hs, ht⟩
  · have hl : l = [] := by
      rw [hlen] at h0
      exact List.length_eq_zero_iff.1 h0
    subst hl
    exact ⟨none, 0, h3.c0, h3.c1, ⟨lr, h3.c2⟩, h3.f, .inl ⟨rfl, rfl, rfl⟩⟩
  · rw [hlen] at hr ht
    refine ⟨some ⟨g, 0, none⟩, cap, ?_, h3.c1, ⟨lr, h3.c2⟩, h3.f, .inr ⟨g, cur, rfl, hc, by omega, hr, hm, by rw [Nat.mul_one] at ht; exact ht, fun e => hne (by rw [e]; rfl)⟩⟩
    rw [h3.c0, hlen]
set_option maxHeartbeats 800000 in
theorem abuf_any (A : Option Addr) (cap : Nat) (lr : Int) (b : Nat) (l : List UInt8) (w : World) (h : BA w b 0 A cap l) (hp : Pla l) (hl : l.length ≤ 900000) :
    Calls Tryd.prog 45 #[.agg #[.slice A l.length cap, .int .i64 0, .int .i8 lr]] w fun e w' => e = .returned (.int .i64 (wL l : Nat)) ∧ Below w.heap.size w w' := by
  have hb : Below w.heap.size w (w.alloc (.cells #[.slice A l.length cap, .int .i64 0, .int .i8 lr] 63)) := (Below.refl _ _).alloc (Nat.le_refl _) _
  have hnew := heap_alloc_new w (.cells #[.slice A l.length cap, .int .i64 0, .int .i8 lr] 63 (0, 0))
  have hba : BA (w.alloc (.cells #[.slice A l.length cap, .int .i64 0, .int .i8 lr] 63)) w.heap.size 0 A cap l := by
    refine ⟨by rw [World.cell?, hnew]; rfl, by rw [World.cell?, hnew]; rfl, ⟨lr, by rw [World.cell?, hnew]; rfl⟩, fun j => by rw [World.frozen?, hnew]; simp, ?_⟩
    rcases h.row with h0 | ⟨g, cur, ha, hg, h1, h2, h3, h4, h5⟩
    · exact .inl h0
    · have hgz := (Array.getElem?_eq_some_iff.1 hg).1
      exact .inr ⟨g, cur, ha, (hb.block g hgz).trans hg, h1, h2, h3, h4, by omega⟩
  have HSTR := Go.Lib.hid (buf_string w.heap.size 0 A cap l _ hba)
  have HPR := Go.Lib.hid fun W => prw_any l W hp hl
  have HB := Go.Lib.hid hb
  obtain ⟨n, hn⟩ : ∃ n, n = l.length := ⟨_, rfl⟩
  obtain ⟨s, hs⟩ : ∃ s, s = tx l := ⟨_, rfl⟩
  obtain ⟨x, hx⟩ : ∃ x, x = wL l := ⟨_, rfl⟩
  rw [← hs, ← hx] at HPR
  rw [← hs] at HSTR
  rw [← hn] at HSTR HB
  rw [← hn, ← hx]
  clear h hp hl hb hnew hba hn hs hx
  go_enter Tryd.func45, Tryd.ntmps45
  go_wp2_with fail
  refine HSTR.out.mono ?_
  rintro e w1 ⟨rfl, rfl⟩
  go_wp2_with fail
  refine (HPR.out _).mono ?_
  rintro e w2 ⟨rfl, b2⟩
  have B2 := Go.Lib.hid (HB.out.drew.trans (b2.mono (by simp)))
  clear b2
  go_wp2_with fail
  go_returns
  exact ⟨rfl, B2.out⟩

set_option maxRecDepth 100000 in
set_option maxHeartbeats 1000000 in
theorem bufWidth_any (x cap : Nat) (ls : List (List UInt8)) (w : World) (hx : PA w x ls) (hp : ∀ y ∈ ls, Pla y ∧ y.length ≤ 900000) (hll : ls.length ≤ 1000) (hfl : ls.flatten.length ≤ 900000) :
    Calls Tryd.prog 23 #[.slice (some ⟨x, 0, none⟩) ls.length cap] w fun e w' => e = .returned (.int .i64 (wL ls.flatten : Nat)) ∧ Below w.heap.size w w' := by
  have hnew := heap_alloc_new w (.cells bufCells 63 (0, 0))
  have hz0 : LibA.IsBuffer 63 (fun _ => none) 5 w.heap.size w.heap.size 0 [] (w.alloc (.cells bufCells 63)) := LibA.zero_isBuffer (Nat.le_refl _) (LibA.three_whole hnew)
  have HZ0 := Go.Lib.hid hz0
  have HB0 : Hid (Below w.heap.size w (w.alloc (.cells bufCells 63))) := (Below.refl _ _).alloc (Nat.le_refl _) _
  have HPF : Hid (Pla ls.flatten) := fun c hc => by
    obtain ⟨y, hy, hcy⟩ := List.mem_flatten.1 hc
    exact (hp y hy).1 c hcy
  obtain ⟨m, hm⟩ : ∃ m, m = ls.length := ⟨_, rfl⟩
  have HSTEP : Hid (∀ k (hk : k < ls.length) (wr : World), LibA.IsBuffer 63 (fun _ => none) 5 w.heap.size w.heap.size 0 (Lib.byteCells (ls.take k).flatten) wr → w.heap.size ≤ wr.heap.size → Calls Tryd.prog 44 #[.pointer (some ⟨w.heap.size, 0, none⟩), .string (tx ls[k])] wr fun e w' => e = .returned (.tuple #[.int .i64 (ls[k].length : Nat), .nilIface]) ∧ LibA.IsBuffer 63 (fun _ => none) 5 w.heap.size w.heap.size 0 (Lib.byteCells (ls.take (k + 1)).flatten) w' ∧ Below w.heap.size wr w') := fun k hk wr hI hB => by
    obtain ⟨y, hy⟩ := flat_pre ls (k + 1)
    have e3 := congrArg List.length hy
    rw [flat_take ls k hk, List.length_append, List.length_append] at e3
    have hbl : (Lib.byteCells (ls.take k).flatten).length = (ls.take k).flatten.length := by
      unfold Lib.byteCells; rw [List.length_map]
    refine (Tryd.Buffer_WriteString_at 63 (fun _ => none) w.heap.size w.heap.size 0 _ (tx ls[k]) wr hI hB (byteCells_one _) (by rw [tx_size, hbl]; omega)).mono ?_
    rintro e w' ⟨rfl, i2, b2, _⟩
    refine ⟨by rw [tx_size], ?_, b2⟩
    rw [flat_take ls k hk]
    simpa [Lib.byteCells, tx] using i2
  have HEND : Hid (∀ A lr cap2 (wr : World), BA wr w.heap.size 0 A cap2 ls.flatten → Calls Tryd.prog 45 #[.agg #[.slice A ls.flatten.length cap2, .int .i64 0, .int .i8 lr]] wr fun e w' => e = .returned (.int .i64 (wL ls.flatten : Nat)) ∧ Below wr.heap.size wr w') := fun A lr cap2 wr h => abuf_any A cap2 lr w.heap.size ls.flatten wr h HPF.out hfl
  have HX := Go.Lib.hid hx
  have HM := Go.Lib.hid hm
  have hm2 : m ≤ 1000 := by omega
  have hzz : w.heap.size < (w.alloc (.cells bufCells 63)).heap.size := by simp
  obtain ⟨r, hr⟩ : ∃ r, r = wL ls.flatten := ⟨_, rfl⟩
  rw [← hr] at HEND
  rw [← hm, ← hr]
  clear hm hp hx hll hfl hnew hz0 hr
  go_enter Tryd.func23, Tryd.ntmps23
  go_wp2_with fail
  go_loopw [8] (fun i wr => ∃ k : Nat, k ≤ m ∧ i = .int .i64 (k : Nat) ∧ Hid (LibA.IsBuffer 63 (fun _ => none) 5 w.heap.size w.heap.size 0 (Lib.byteCells (ls.take k).flatten) wr) ∧ Hid (Below w.heap.size w wr)) (fun i _ => m - (intOf i).toNat)
  case atStart => exact ⟨0, Nat.zero_le _, rfl, Go.Lib.hid (by simpa [Lib.byteCells, bufCells] using HZ0.out), HB0⟩
  case round =>
    obtain ⟨k, hk, rfl, HW, HB⟩ := hrel
    by_cases hkm : k < m
    · have hkl : k < ls.length := by rw [← HM.out]; exact hkm
      have hck : wr.cell? ⟨x, k, none⟩ = some (.string (tx ls[k])) := (HX.out.below HB.out).2 k hkl
      have hxz := (HX.out.below HB.out).1
      have hbz := HW.out.lt
      have HST := Go.Lib.hid (HSTEP.out k hkl wr HW.out HB.out.size)
      obtain ⟨s, hs⟩ : ∃ s, s = tx ls[k] := ⟨_, rfl⟩
      obtain ⟨d, hd⟩ : ∃ d, d = ls[k].length := ⟨_, rfl⟩
      rw [← hs] at hck HST
      rw [← hd] at HST
      clear hs hd hkl
      go_wp2_with fail
      refine HST.out.mono ?_
      rintro e w6 ⟨rfl, i6, b6⟩
      have I6 := Go.Lib.hid i6
      have B6 := Go.Lib.hid (HB.out.trans b6)
      clear i6 b6
      go_wp2_with fail
      go_roundw
      case rel => exact ⟨k + 1, by omega, by go_num, I6, B6⟩
      case measure => simp [intOf]; omega
    · have hE : k = m := by omega
      have hw := HW.out
      rw [hE, HM.out, List.take_length] at hw
      obtain ⟨A, cap2, hba⟩ := BA.of_lib hw
      obtain ⟨lr, c2⟩ := hba.c2
      have c0 := hba.c0
      have c1 := hba.c1
      have hz := lt_of_cell c0
      have HEN := Go.Lib.hid (HEND.out A lr cap2 wr hba)
      obtain ⟨d, hd⟩ : ∃ d, d = ls.flatten.length := ⟨_, rfl⟩
      rw [← hd] at c0 HEN
      clear hE hw hba hd
      go_wp2_with fail
      refine HEN.out.mono ?_
      rintro e w5 ⟨rfl, b5⟩
      have B5 : Hid (Below w.heap.size w w5) := HB.out.trans (b5.mono HB.out.size)
      clear b5
      go_wp2_with fail
      go_returns
      exact ⟨rfl, B5.out⟩
end Go.Proofs.YtbibokkclejapaaDoor
