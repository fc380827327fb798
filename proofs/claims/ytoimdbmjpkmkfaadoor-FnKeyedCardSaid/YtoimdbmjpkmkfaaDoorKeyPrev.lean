/- RuneBuffer.MoveToPrevWord, impl.keyed at it (printed by wip/gen/mkkeyprev.py). -/
import Derived.Test.YtoimdbmjpkmkfaaDoorKeyNext2
namespace Go.Proofs.YtoimdbmjpkmkfaaDoor
open Go.RowKit
set_option linter.unusedVariables false
set_option linter.unusedSimpArgs false

set_option maxHeartbeats 4000000 in
theorem prev_cl (rb N M : Nat) (l : List Int) (k : Nat) (kept : List Int) (w : World) (h : RB w rb l k kept) (hN : Cap w rb N) (hM : w.cell? ⟨M, 0, none⟩ = some (.bool false) ∧ w.frozen? ⟨M, 0, none⟩ = false ∧ M < w.heap.size ∧ M ≠ rb ∧ ¬ I32 w M) (hk : k ≤ l.length) (hk0 : 0 < k) (hl : l.length ≤ 100000) :
    Calls Tryd.prog 73 #[.pointer (some ⟨N, 0, none⟩), .pointer (some ⟨M, 0, none⟩)] w fun e w' => e = .returned (.tuple #[]) ∧ ∃ w1, (RB w1 rb l (befW l k).toNat kept ∧ Own rb w w1) ∧ w1.cell? ⟨M, 0, none⟩ = some (.bool false) ∧ ¬ I32 w1 M ∧ w' = w1.setCell ⟨M, 0, none⟩ (.bool true) := by
  obtain ⟨A, cap, B, cap2, hv⟩ := h
  have HV := Go.Lib.hid hv
  obtain ⟨cM, fM, lM, nM, iM⟩ := hM
  have e0 : ((k : Int) == 0) = false := by rw [beq_eq_false_iff_ne]; omega
  have c0 := hv.c0
  have c1 := hv.c1
  have f1 := hv.f 1
  have sz := hv.sz
  have cN := hN.c
  have ltN := hN.lt
  have neN := hN.ne
  have HIM := Go.Lib.hid iM
  have hw0 : IntKind.i64.wrap ((k : Int) - 1) = (k : Int) - 1 := IntWalk.i64_in _ (by omega)
  have nM2 : ¬ rb = M := fun e => nM e.symm
  have HFIN : Hid (∀ i : Nat, (w.setCell ⟨rb, 1, none⟩ (.int .i64 (i : Nat))).cell? ⟨M, 0, none⟩ = some (.bool false) ∧ ¬ I32 (w.setCell ⟨rb, 1, none⟩ (.int .i64 (i : Nat))) M) := fun i => ⟨(World.cell?_setCell_other _ _ _ _ (by intro e; have := congrArg Addr.block e; simp at this; omega)).trans cM, fun h' => iM (i32_setCell h')⟩
  clear hv hN iM
  go_enter Tryd.func73, Tryd.ntmps73
  go_wp2_with fail
  go_loop [2] (fun x => ∃ z : Nat, x = .int .i64 z ∧ z < k ∧ Hid (befW l k = befW l (z + 1))) (fun x => (intOf x).toNat)
  case atStart => exact ⟨k - 1, congrArg (Value.int .i64) (by omega), by omega, by rw [Hid, show k - 1 + 1 = k by omega]⟩
  case round =>
    obtain ⟨m, rfl, hz2, HR⟩ := hrel
    by_cases hm0 : 0 < m
    · have hml : m < l.length := by omega
      obtain ⟨g, rfl, _, cg⟩ := buf_nth HV.out m hml
      obtain ⟨g', hgg, _, cg'⟩ := buf_nth HV.out (m - 1) (by omega)
      cases hgg
      have hR := HR.out
      rw [befW, begB_eq l m hm0 hml] at hR
      have HI := Go.Lib.hid fun w => isbreak_any (nth l m) w
      have HM := Go.Lib.hid fun w => isbreak_any (nth l (m - 1)) w
      obtain ⟨m1, hm1⟩ : ∃ m1, m1 = m - 1 := ⟨_, rfl⟩
      rw [← hm1] at hR cg' HM
      have hw : IntKind.i64.wrap ((m : Int) - 1) = (m1 : Nat) := by rw [IntWalk.i64_in _ (by omega)]; omega
      have hb0 : (0 : Int) < m := by omega
      have hb1 : (m : Int) < l.length := by omega
      have hb3 : (m1 : Int) < l.length := by omega
      generalize nth l m = x at cg HI hR
      generalize nth l m1 = y at cg' HM hR
      generalize isW x = p at HI hR
      generalize isW y = q at HM hR
      have HR2 := Go.Lib.hid hR
      have HM1 := Go.Lib.hid hm1
      clear hR hm1
      cases p
      · go_wp2_with fail
        refine (HI.out _).mono ?_
        rintro e w1 ⟨rfl, rfl⟩
        go_wp2_with fail
        go_round
        case rel => exact ⟨m1, by go_num, by have := HM1.out; omega, by rw [Hid]; refine HR2.out.trans ?_; rw [show m1 + 1 = m by have := HM1.out; omega]; rfl⟩
        case measure => have := HM1.out; simp [intOf]; omega
      · cases q
        · have HF : Hid ((befW l k).toNat = m) := by
            have h1 := HR2.out
            simp at h1
            show (befW l k).toNat = m
            rw [h1]; rfl
          go_wp2_with fail
          refine (HI.out _).mono ?_
          rintro e w1 ⟨rfl, rfl⟩
          go_wp2_with fail
          refine (HM.out _).mono ?_
          rintro e w1 ⟨rfl, rfl⟩
          go_wp2_with fail
          go_returns
          exact ⟨rfl, _, ⟨by rw [HF.out]; exact ⟨_, _, _, _, HV.out.idx m⟩, (Own.refl _ _).set _ _⟩, (HFIN.out m).1, (HFIN.out m).2, rfl⟩
        · go_wp2_with fail
          refine (HI.out _).mono ?_
          rintro e w1 ⟨rfl, rfl⟩
          go_wp2_with fail
          refine (HM.out _).mono ?_
          rintro e w1 ⟨rfl, rfl⟩
          go_wp2_with fail
          go_round
          case rel => exact ⟨m1, by go_num, by have := HM1.out; omega, by rw [Hid]; refine HR2.out.trans ?_; rw [show m1 + 1 = m by have := HM1.out; omega]; rfl⟩
          case measure => have := HM1.out; simp [intOf]; omega
    · obtain rfl : m = 0 := by omega
      have HF : Hid ((befW l k).toNat = 0) := by
        show (befW l k).toNat = 0
        rw [HR.out, befW, begB_zero]; rfl
      have hn0 : ¬ ((0 : Nat) : Int) > 0 := by omega
      go_wp2_with fail
      go_returns
      exact ⟨rfl, _, ⟨by rw [HF.out]; exact ⟨_, _, _, _, HV.out.idx 0⟩, (Own.refl _ _).set _ _⟩, (HFIN.out 0).1, (HFIN.out 0).2, rfl⟩

theorem prev_any (rb : Nat) (l : List Int) (k : Nat) (kept : List Int) (w : World) (h : RB w rb l k kept) (hk : k ≤ l.length) (hk0 : 0 < k) (hl : l.length ≤ 100000) :
    Calls Tryd.prog 63 #[.pointer (some ⟨rb, 0, none⟩)] w fun e w' => e = .returned (.bool true) ∧ (RB w' rb l (befW l k).toNat kept ∧ Own rb w w') := by
  have eg : ∀ args w, (callFunc 73 args).run Tryd.prog w = .ok (.enter 73 args) w := fun _ _ => by kernel_rfl
  have hmf : ∀ (fn : Fn) (first cap : Array Value) (w : World), (Instr.makeFunc fn first cap).run Tryd.prog w = .ok (.func fn first cap) w := fun _ _ _ _ => rfl
  have hsz : rb < w.heap.size := by obtain ⟨_, _, _, _, h⟩ := h; exact h.sz
  have b1 : Below w.heap.size w (w.alloc (.cells #[.pointer (some ⟨rb, 0, none⟩)] 46)) := (Below.refl _ _).alloc (Nat.le_refl _) _
  have v1 := var_new (w.alloc (.cells #[.pointer (some ⟨rb, 0, none⟩)] 46)) rb (.bool false) 4 (by decide) (by simp; omega)
  rw [show (w.alloc (.cells #[.pointer (some ⟨rb, 0, none⟩)] 46)).heap.size = w.heap.size + 1 by simp] at v1
  have n1 := (cap_new w rb 46 (by decide) hsz).own ((Own.refl rb (w.alloc (.cells #[.pointer (some ⟨rb, 0, none⟩)] 46))).alloc (.cells #[.bool false] 4))
  have f1 : ((w.alloc (.cells #[.pointer (some ⟨rb, 0, none⟩)] 46)).alloc (.cells #[.bool false] 4)).frozen? ⟨w.heap.size + 1, 0, none⟩ = false := by simp [go_sem]
  have HR := Go.Lib.hid (refresh rb 73 #[.pointer (some ⟨w.heap.size, 0, none⟩), .pointer (some ⟨w.heap.size + 1, 0, none⟩)] ((w.alloc (.cells #[.pointer (some ⟨rb, 0, none⟩)] 46)).alloc (.cells #[.bool false] 4)) _ eg
    (prev_cl rb w.heap.size (w.heap.size + 1) l k kept _ (h.below (b1.alloc (by simp) _)) n1 ⟨v1.c, f1, v1.lt, v1.ne, v1.ni⟩ hk hk0 hl))
  clear h eg v1 n1 b1 f1
  go_enter Tryd.func63, Tryd.ntmps63
  go_wp2_with fail
  refine HR.out.mono ?_
  rintro e w1 ⟨rfl, w2, ⟨h1, o1⟩, hM, hni, rfl⟩
  have H1 := Go.Lib.hid h1
  have HN := Go.Lib.hid hni
  have O1 := Go.Lib.hid (((Own.refl rb w).alloc _).alloc _ |>.trans o1)
  have hM2 : (w2.setCell ⟨w.heap.size + 1, 0, none⟩ (.bool true)).cell? ⟨w.heap.size + 1, 0, none⟩ = some (.bool true) := World.cell?_setCell_same' _ _ _ (by rw [hM]; rfl)
  clear h1 o1 hM hni
  generalize hw3 : w2.setCell ⟨w.heap.size + 1, 0, none⟩ (.bool true) = w3 at hM2 ⊢
  have HW := Go.Lib.hid hw3
  clear hw3
  go_wp2_with fail
  refine bodyPost_ret (v := .bool true) (by simp [results, Tryd.results63, go_sem, hM2]) rfl ⟨rfl, ?_, ?_⟩
  · rw [← HW.out]
    refine H1.out.same (by simp [World.setCell]) fun k hk h2 => Below.heap_setCell _ _ _ _ ?_
    rintro rfl
    rcases h2 with h2 | h2
    · simp at h2; omega
    · exact HN.out h2.2
  · rw [← HW.out]
    have o := O1.out
    refine ⟨o.os, o.tape, o.output, by simpa [World.setCell] using o.size, fun k hk h1 h2 => ?_⟩
    rw [Below.heap_setCell _ _ _ _ (by show k ≠ w.heap.size + 1; omega)]
    exact o.rest k hk h1 h2

end Go.Proofs.YtoimdbmjpkmkfaaDoor
