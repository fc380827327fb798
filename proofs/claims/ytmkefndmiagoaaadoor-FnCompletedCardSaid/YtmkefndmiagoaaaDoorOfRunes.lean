/- readline.Runes: Equal, HasPrefix, TrimSpaceLeft at lines that begin with a letter; unicode.IsSpace at letters; the getters of a completer. -/
import Derived.Test.YtmkefndmiagoaaaDoorOfWalks
import Derived.Test.YtmkefndmiagoaaaDoorQuietTail
import Derived.Handy
import Derived.Stop.Asserts
namespace Go.Proofs.YtmkefndmiagoaaaDoor
open Go.RowKit
set_option linter.unusedVariables false
set_option linter.unusedSimpArgs false

/-- Where a slice of a row begins, from a place on. -/
def fromA (A : Option Addr) (cap i : Nat) : Option Addr := if cap = i then A else A.map fun a => a.add i
theorem run_from {P : Program} (t e : TypeId) (ht : P.underlying t = some (.slice e)) (hi : ∀ w, (sizeOf (P.elem t)).run P w = .ok 1 w) (A : Option Addr) (n cap i : Nat) (hl : i ≤ n) :
    ∀ w, (Instr.slice t (.slice A n cap) (some (.int .i64 (i : Nat))) none none).run P w = .ok (.slice (fromA A cap i) (n - i) (cap - i)) w := fun w => by
  have he : P.elem t = e := by simp [Program.elem, ht]
  rw [run_slice_l w t _ n cap (by rw [he]; exact ht) .i64 i (by omega) (by omega), hi]
  simp only [Result.andThen, sliced, Nat.mul_one, Int.toNat_natCast, fromA]
theorem run_upto {P : Program} (t e : TypeId) (ht : P.underlying t = some (.slice e)) (hi : ∀ w, (sizeOf (P.elem t)).run P w = .ok 1 w) (A : Option Addr) (n cap i : Nat) (hl : i ≤ cap) :
    ∀ w, (Instr.slice t (.slice A n cap) none (some (.int .i64 (i : Nat))) none).run P w = .ok (.slice A i cap) w := fun w => by
  have he : P.elem t = e := by simp [Program.elem, ht]
  rw [run_slice_h w t _ n cap (by rw [he]; exact ht) .i64 i (by omega) (by omega), hi]
  cases A <;> simp [Result.andThen, sliced, Addr.add]
theorem fromA_zero (A : Option Addr) (cap : Nat) : fromA A cap 0 = A := by
  unfold fromA
  split
  · rfl
  · cases A <;> simp [Addr.add]
theorem from_run (A : Option Addr) (n cap i : Nat) (h : i ≤ n) : ∀ w, (Instr.slice 51 (.slice A n cap) (some (.int .i64 (i : Nat))) none none).run Tryd.prog w = .ok (.slice (fromA A cap i) (n - i) (cap - i)) w := run_from _ _ Tryd.underlying51 sizeI32 A n cap i h
theorem up_run (A : Option Addr) (n cap i : Nat) (h : i ≤ cap) : ∀ w, (Instr.slice 51 (.slice A n cap) none (some (.int .i64 (i : Nat))) none).run Tryd.prog w = .ok (.slice A i cap) w := run_upto _ _ Tryd.underlying51 sizeI32 A n cap i h

theorem RuneRow.mono {w w' : World} {A : Option Addr} {zs : List Int} (h : RuneRow w A zs) (hb : Below w.heap.size w w') : RuneRow w' A zs := fun j hj => by
  obtain ⟨g, o, e, hc⟩ := h j hj
  exact ⟨g, o, e, (hb.cell (p := ⟨g, o + j, none⟩) (lt_of_cell hc)).trans hc⟩
theorem RuneRow.drop {w : World} {A : Option Addr} {zs : List Int} (h : RuneRow w A zs) (cap i : Nat) (hc : zs.length ≤ cap) : RuneRow w (fromA A cap i) (zs.drop i) := fun j hj => by
  rw [List.length_drop] at hj
  obtain ⟨g, o, rfl, hcl⟩ := h (i + j) (by omega)
  have hne : cap ≠ i := by omega
  refine ⟨g, o + i, ?_, ?_⟩
  · unfold fromA
    rw [if_neg hne]
    simp only [Option.map_some, Addr.add]
    by_cases h0 : i = 0
    · rw [if_pos h0, h0]; rfl
    · rw [if_neg h0]
  · rw [Nat.add_assoc, hcl]
    simp [nth, List.getElem?_drop]
theorem RuneRow.up {w : World} {A : Option Addr} {zs : List Int} (h : RuneRow w A zs) (m : Nat) : RuneRow w A (zs.take m) := fun j hj => by
  rw [List.length_take] at hj
  obtain ⟨g, o, e, hc⟩ := h j (by omega)
  refine ⟨g, o, e, ?_⟩
  rw [hc]
  simp [nth, List.getElem?_take_of_lt (show j < m by omega)]

def BoolPost (p : Prop) (w : World) (e : Ending) (w' : World) : Prop := ∃ b, e = .returned (.bool b) ∧ (b = true ↔ p) ∧ Below w.heap.size w w'

set_option maxHeartbeats 1000000 in
theorem equal_any (A B : Option Addr) (c d : Nat) (xs ys : List Int) (w : World) (hx : RuneRow w A xs) (hy : RuneRow w B ys) (hl : xs.length ≤ 100000) :
    Calls Tryd.prog 36 #[.agg #[], .slice A xs.length c, .slice B ys.length d] w (BoolPost (xs = ys) w) := by
  have HX := Go.Lib.hid hx
  have HY := Go.Lib.hid hy
  clear hx hy
  obtain ⟨n, hn⟩ : ∃ n, n = xs.length := ⟨_, rfl⟩
  obtain ⟨m, hm⟩ : ∃ m, m = ys.length := ⟨_, rfl⟩
  have HN := Go.Lib.hid hn
  have HM := Go.Lib.hid hm
  rw [← hn, ← hm]
  rw [← hn] at hl
  clear hn hm
  by_cases hnm : n = m
  · subst hnm
    have hnn : ((n : Int) != n) = false := by simp
    go_enter Tryd.func36, Tryd.ntmps36
    go_wp2_with fail
    go_loopw [7] (fun i wr => ∃ k : Nat, k ≤ n ∧ i = .int .i64 k ∧ Hid (Below w.heap.size w wr) ∧ Hid (∀ j, j < k → nth xs j = nth ys j)) (fun i _ => n - (intOf i).toNat)
    case atStart => exact ⟨0, Nat.zero_le _, rfl, (Below.refl _ _).alloc (Nat.le_refl _) _, fun j hj => by omega⟩
    case round =>
      obtain ⟨k, hk, rfl, HB, HG⟩ := hrel
      by_cases hlt : k < n
      · obtain ⟨g, o, rfl, hc⟩ := HX.out.mono HB.out k (by rw [← HN.out]; exact hlt)
        obtain ⟨g2, o2, rfl, hc2⟩ := HY.out.mono HB.out k (by rw [← HM.out]; exact hlt)
        obtain ⟨u, hu⟩ : ∃ u, u = nth xs k := ⟨_, rfl⟩
        obtain ⟨v, hv⟩ : ∃ v, v = nth ys k := ⟨_, rfl⟩
        rw [← hu] at hc
        rw [← hv] at hc2
        have HU := Go.Lib.hid hu
        have HV := Go.Lib.hid hv
        clear hu hv
        have hk0 : (0 : Int) ≤ k := by omega
        have hk1 : (k : Int) < n := by omega
        by_cases huv : u = v
        · have q : (u != v) = false := by simp [huv]
          have HUV := Go.Lib.hid huv
          clear huv
          go_wp2_with fail
          go_quiet (fail)
          have HBN : Hid (Below w.heap.size w (wr.drewN nq)) := below_drewN HB.out _
          go_wp2_with fail
          go_roundw
          case rel => exact ⟨k + 1, by omega, by go_num, HBN.out, fun j hj => by
            by_cases e : j < k
            · exact HG.out j e
            · obtain rfl : j = k := by omega
              rw [← HU.out, ← HV.out]; exact HUV.out⟩
          case measure => simp [intOf]; omega
        · have q : (u != v) = true := by simp [huv]
          have HUV := Go.Lib.hid huv
          clear huv
          go_wp2_with fail
          go_quiet (fail)
          have HBN : Hid (Below w.heap.size w (wr.drewN nq)) := below_drewN HB.out _
          go_wp2_with fail
          go_returns
          exact ⟨false, rfl, ⟨(fun h => by cases h), fun h => absurd (by rw [HU.out, HV.out, h]) HUV.out⟩, HBN.out⟩
      · have HE : Hid (xs = ys) := List.ext_getElem (by rw [← HN.out, ← HM.out]) fun i h1 h2 => by
          have := HG.out i (by have := HN.out; omega)
          simpa [nth, h1, h2] using this
        go_wp2_with fail
        go_returns
        exact ⟨true, rfl, ⟨fun _ => HE.out, fun _ => rfl⟩, HB.out⟩
  · have hnn : ((n : Int) != m) = true := by simp; omega
    have HNE := Go.Lib.hid hnm
    clear hnm
    go_enter Tryd.func36, Tryd.ntmps36
    go_wp2_with fail
    go_returns
    exact ⟨false, rfl, ⟨(fun h => by cases h), fun h => absurd (by rw [HN.out, HM.out, h]) HNE.out⟩, (Below.refl _ _).alloc (Nat.le_refl _) _⟩

set_option maxHeartbeats 1000000 in
theorem hasPrefix_any (A B : Option Addr) (c d : Nat) (xs ys : List Int) (w : World) (hx : RuneRow w A xs) (hy : RuneRow w B ys) (hc : xs.length ≤ c) (hle : ys.length ≤ xs.length) (hl : xs.length ≤ 100000) :
    Calls Tryd.prog 33 #[.agg #[], .slice A xs.length c, .slice B ys.length d] w (BoolPost (xs.take ys.length = ys) w) := by
  have hld : ∀ (W : World) (a : Addr), (loadVar 54 a).run Tryd.prog W = .ok (.agg #[]) W := fun W a => by kernel_rfl
  have HEQ : Hid (∀ W : World, Below w.heap.size w W → Calls Tryd.prog 36 #[.agg #[], .slice A ys.length c, .slice B ys.length d] W (BoolPost (xs.take ys.length = ys) W)) := fun W hW => by
    have h1 := equal_any A B c d (xs.take ys.length) ys W ((hx.mono hW).up _) (hy.mono hW) (by rw [List.length_take]; omega)
    rwa [show (xs.take ys.length).length = ys.length by rw [List.length_take]; omega] at h1
  generalize (xs.take ys.length = ys) = p at HEQ
  clear hx hy
  clear hl
  generalize xs.length = n at hc hle
  generalize ys.length = m at hle HEQ
  have hcut := up_run A n c m (by omega)
  have hnm : ¬ ((n : Int) < m) := by omega
  go_enter Tryd.func33, Tryd.ntmps33
  go_wp2_with fail
  refine region_quiet_tail 6 (by kernel_rfl) (by kernel_rfl) ?_
  simp only [List.take_succ_cons, List.take_zero, List.drop_succ_cons, List.drop_zero]
  repeat (go_big_quiet_step (fail))
  refine wpQuiet_nil ?_
  intro _ hw'
  obtain ⟨nq, hw''⟩ := hw'
  subst hw''
  go_wp2_with fail
  have hb1 : Below w.heap.size w ((w.alloc (.cells #[] 54)).drewN nq) := below_drewN ((Below.refl _ _).alloc (Nat.le_refl _) _) nq
  refine (HEQ.out _ hb1).mono ?_
  rintro e w2 ⟨r, rfl, hr, b2⟩
  have HR := Go.Lib.hid hr
  have HB2 : Hid (Below w.heap.size w w2) := hb1.trans (b2.mono hb1.size)
  clear hb1 hr b2
  go_wp2_with fail
  go_returns
  exact ⟨r, rfl, HR.out, HB2.out⟩

theorem isSpace_letter (z : Int) (w : World) (h0 : 97 ≤ z) (h1 : z ≤ 122) : Calls Tryd.prog 35 #[.int .i32 z] w fun e w' => e = .returned (.bool false) ∧ w = w' := by
  have e9 : (z == 9) = false := by simp; omega
  have e10 : (z == 10) = false := by simp; omega
  have e11 : (z == 11) = false := by simp; omega
  have e12 : (z == 12) = false := by simp; omega
  have e13 : (z == 13) = false := by simp; omega
  have e32 : (z == 32) = false := by simp; omega
  have e133 : (z == 133) = false := by simp; omega
  have e160 : (z == 160) = false := by simp; omega
  go_enter Tryd.func35, Tryd.ntmps35
  go_wp2_with fail
  go_returns
  exact ⟨rfl, rfl⟩

theorem trim_any (A : Option Addr) (c : Nat) (xs : List Int) (w : World) (hx : RuneRow w A xs) (h0 : 0 < xs.length → 97 ≤ nth xs 0 ∧ nth xs 0 ≤ 122) :
    Calls Tryd.prog 32 #[.agg #[], .slice A xs.length c] w fun e w' => e = .returned (.slice A xs.length c) ∧ Below w.heap.size w w' := by
  have HX := Go.Lib.hid hx
  have H0 := Go.Lib.hid h0
  clear hx h0
  obtain ⟨n, hn⟩ : ∃ n, n = xs.length := ⟨_, rfl⟩
  have HN := Go.Lib.hid hn
  rw [← hn]
  clear hn
  have hfr : ∀ W, (Instr.slice 51 (.slice A n c) (some (.int .i64 0)) none none).run Tryd.prog W = .ok (.slice A n c) W := fun W => by
    have := from_run A n c 0 (Nat.zero_le _) W
    rw [fromA_zero] at this
    exact this
  go_enter Tryd.func32, Tryd.ntmps32
  go_wp2_with fail
  go_loopw [5, 12] (fun fi i wr => fi = .int .i64 n ∧ i = .int .i64 0 ∧ Hid (Below w.heap.size w wr)) (fun _ _ _ => 0)
  case atStart => exact ⟨rfl, rfl, (Below.refl _ _).alloc (Nat.le_refl _) _⟩
  case round =>
    obtain ⟨rfl, rfl, HB⟩ := hrel
    by_cases hlt : 0 < n
    · obtain ⟨g, o, rfl, hc⟩ := HX.out.mono HB.out 0 (by rw [← HN.out]; exact hlt)
      obtain ⟨z0, z1⟩ := H0.out (by rw [← HN.out]; exact hlt)
      generalize nth xs 0 = z at hc z0 z1
      rw [Nat.add_zero] at hc
      have hk1 : (0 : Int) < n := by omega
      go_wp2_with fail
      refine (isSpace_letter z wr z0 z1).mono ?_
      rintro e w1 ⟨rfl, rfl⟩
      go_wp2_with fail
      go_returns
      exact ⟨rfl, HB.out⟩
    · obtain rfl : n = 0 := by omega
      go_wp2_with fail
      go_returns
      exact ⟨rfl, HB.out⟩

theorem sameTexts_any (A B : Option Addr) (c d : Nat) (ts : List ByteArray) (w : World) (hx : IsStrs w A ts) (hy : IsStrs w B ts) (hl : ts.length ≤ 1000) :
    Calls Tryd.prog 12 #[.slice A ts.length c, .slice B ts.length d] w fun e w' => e = .returned (.bool true) ∧ Below w.heap.size w w' := by
  have HX := Go.Lib.hid hx
  have HY := Go.Lib.hid hy
  clear hx hy
  obtain ⟨n, hn⟩ : ∃ n, n = ts.length := ⟨_, rfl⟩
  have HN := Go.Lib.hid hn
  rw [← hn] at hl ⊢
  clear hn
  go_enter Tryd.func12, Tryd.ntmps12
  go_wp2_with fail
  go_loopw [13] (fun i wr => ∃ k : Nat, k ≤ n ∧ i = .int .i64 k ∧ Hid (Below w.heap.size w wr)) (fun i _ => n - (intOf i).toNat)
  case atStart => exact ⟨0, Nat.zero_le _, rfl, Below.refl _ _⟩
  case round =>
    obtain ⟨k, hk, rfl, HB⟩ := hrel
    by_cases hlt : k < n
    · rcases HX.out.below HB.out with e | ⟨g, o, rfl, hg, hc⟩
      · have := HN.out; rw [e] at this; simp at this; omega
      rcases HY.out.below HB.out with e | ⟨g2, o2, rfl, hg2, hc2⟩
      · have := HN.out; rw [e] at this; simp at this; omega
      have c1 := hc k (by rw [← HN.out]; exact hlt)
      have c2 := hc2 k (by rw [← HN.out]; exact hlt)
      clear hc hc2
      generalize txt ts k = x at c1 c2
      have hk0 : (0 : Int) ≤ k := by omega
      have hk1 : (k : Int) < n := by omega
      have q : (x.toList == x.toList) = true := by simp
      go_wp2_with fail
      go_quiet (fail)
      have HBN : Hid (Below w.heap.size w (wr.drewN nq)) := below_drewN HB.out _
      go_wp2_with fail
      go_roundw
      case rel => exact ⟨k + 1, by omega, by go_num, HBN.out⟩
      case measure => simp [intOf]; omega
    · go_wp2_with fail
      go_returns
      exact ⟨rfl, HB.out⟩
end Go.Proofs.YtmkefndmiagoaaaDoor
