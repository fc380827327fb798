/- readline.zzReader.ReadRune. -/
import Derived.Test.YtbkapklnfnopeaaDoorEscNum
import Derived.Test.YtbkapklnfnopeaaDoorQuietTail
namespace Go.Proofs.YtbkapklnfnopeaaDoor
open Go.RowKit
set_option linter.unusedVariables false
set_option linter.unusedSimpArgs false

theorem Rd.set2 {w : World} {rd b : Nat} {zs : List Int} {cap k : Nat} (h : Rd w rd b zs cap k) (u : Bool) : Rd (w.setCell ⟨rd, 2, none⟩ (.bool u)) rd b zs cap k := by
  obtain ⟨u0, hu⟩ := h.c2
  have o : ∀ j, j ≠ 2 → (w.setCell ⟨rd, 2, none⟩ (.bool u)).cell? ⟨rd, j, none⟩ = w.cell? ⟨rd, j, none⟩ := fun j hj => World.cell?_setCell_other _ _ _ _ (by simp [hj, Ne.symm hj])
  exact ⟨(o 0 (by decide)).trans h.c0, (o 1 (by decide)).trans h.c1, ⟨u, World.cell?_setCell_same' _ _ _ (by rw [hu]; rfl)⟩, fun j => by rw [World.frozen?_setCell]; exact h.f j, fun j hj => (World.cell?_setCell_other _ _ _ _ (by intro e; have := congrArg Addr.block e; simp at this; have := h.ne; omega)).trans (h.row j hj), h.ne, by simpa [World.setCell] using h.lt, by simpa [World.setCell] using h.ltb⟩
theorem Rd.set1 {w : World} {rd b : Nat} {zs : List Int} {cap k : Nat} (h : Rd w rd b zs cap k) (m : Nat) : Rd (w.setCell ⟨rd, 1, none⟩ (.int .i64 (m : Nat))) rd b zs cap m := by
  obtain ⟨u0, hu⟩ := h.c2
  have o : ∀ j, j ≠ 1 → (w.setCell ⟨rd, 1, none⟩ (.int .i64 (m : Nat))).cell? ⟨rd, j, none⟩ = w.cell? ⟨rd, j, none⟩ := fun j hj => World.cell?_setCell_other _ _ _ _ (by simp [hj, Ne.symm hj])
  exact ⟨(o 0 (by decide)).trans h.c0, World.cell?_setCell_same' _ _ _ (by rw [h.c1]; rfl), ⟨u0, (o 2 (by decide)).trans hu⟩, fun j => by rw [World.frozen?_setCell]; exact h.f j, fun j hj => (World.cell?_setCell_other _ _ _ _ (by intro e; have := congrArg Addr.block e; simp at this; have := h.ne; omega)).trans (h.row j hj), h.ne, by simpa [World.setCell] using h.lt, by simpa [World.setCell] using h.ltb⟩
theorem Rd.drew {w : World} {rd b : Nat} {zs : List Int} {cap k : Nat} (h : Rd w rd b zs cap k) : Rd w.drew rd b zs cap k := h.of rfl rfl (Nat.le_refl _)

def ReadPost (rd b : Nat) (zs : List Int) (cap k : Nat) (w : World) (e : Ending) (w' : World) : Prop :=
  ∃ m : Int, e = .returned (.tuple #[.int .i32 (if k < zs.length then nth zs k else 0), .int .i64 m, .nilIface]) ∧ Rd w' rd b zs cap (min (k + 1) zs.length) ∧ OnlyB rd w w'

set_option maxHeartbeats 2000000 in
theorem read_any (rd b : Nat) (zs : List Int) (cap k : Nat) (w : World) (h : Rd w rd b zs cap k) (hz : zs.length ≤ 1000) (hk : k ≤ zs.length) (hc : zs.length ≤ cap) :
    Calls Tryd.prog 14 #[.pointer (some ⟨rd, 0, none⟩)] w (ReadPost rd b zs cap k w) := by
  have H := Go.Lib.hid h
  obtain ⟨u, c2⟩ := h.c2
  have c0 := h.c0
  have c1 := h.c1
  have f2 := h.f 2
  have lt := h.lt
  by_cases hlt : k < zs.length
  · have hI : (k : Int) < zs.length := by omega
    have HN : Hid (min (k + 1) zs.length = k + 1) := Nat.min_eq_left (by omega)
    have HV : Hid ((if k < zs.length then nth zs k else 0) = nth zs k) := if_pos hlt
    obtain ⟨V, hV⟩ : ∃ V, V = if k < zs.length then nth zs k else 0 := ⟨_, rfl⟩
    unfold ReadPost
    rw [← hV] at HV ⊢
    clear hV
    clear h
    go_enter Tryd.func14, Tryd.ntmps14
    go_wp2_with fail
    refine region_quiet_tail 11 (by kernel_rfl) (by kernel_rfl) ?_
    simp only [List.take_succ_cons, List.take_zero, List.drop_succ_cons, List.drop_zero]
    repeat (go_big_quiet_step (fail))
    refine wpQuiet_nil ?_
    intro _ hw'
    obtain ⟨nq, hw''⟩ := hw'
    subst hw''
    have HD : Hid (Rd ((w.drewN nq).setCell ⟨rd, 2, none⟩ (.bool true)) rd b zs cap k) := (H.out.of (w' := w.drewN nq) (by simp [World.drewN]) (by simp [World.drewN]) (by simp [World.drewN])).set2 true
    have HO : Hid (OnlyB rd w ((w.drewN nq).setCell ⟨rd, 2, none⟩ (.bool true))) := ((OnlyB.refl rd w).drewN nq).set _ _
    have a1 := HD.out.c1
    have a2 : ((w.drewN nq).setCell ⟨rd, 2, none⟩ (.bool true)).cell? ⟨rd, 2, none⟩ = some (.bool true) := World.cell?_setCell_same' _ _ _ (by rw [(below_drewN (Below.refl w.heap.size w) nq).cell lt, c2]; rfl)
    have b1 := HD.out.f 1
    have bz := HD.out.lt
    go_wp2_with fail
    have HD2 : Hid (Rd (((w.drewN nq).setCell ⟨rd, 2, none⟩ (.bool true)).setCell ⟨rd, 1, none⟩ (.int .i64 ((k : Int) + 1))) rd b zs cap (k + 1)) := HD.out.set1 (k + 1)
    have HO2 : Hid (OnlyB rd w (((w.drewN nq).setCell ⟨rd, 2, none⟩ (.bool true)).setCell ⟨rd, 1, none⟩ (.int .i64 ((k : Int) + 1)))) := HO.out.set _ _
    clear a1 a2 b1 bz c0 c1 c2 f2 lt
    generalize ((w.drewN nq).setCell ⟨rd, 2, none⟩ (.bool true)).setCell ⟨rd, 1, none⟩ (.int .i64 ((k : Int) + 1)) = wx at HD2 HO2 ⊢
    have d0 := HD2.out.c0
    have d1 := HD2.out.c1
    have dk := HD2.out.row k hlt
    have hw1 : IntKind.i64.wrap (((k + 1 : Nat) : Int) - 1) = (k : Nat) := by rw [IntWalk.i64_in _ (by omega)]; omega
    obtain ⟨k1, hk1⟩ : ∃ k1, k1 = k + 1 := ⟨_, rfl⟩
    rw [← hk1] at HD2 d1 hw1
    have HK1 := Go.Lib.hid hk1
    obtain ⟨y, hy⟩ : ∃ y, y = nth zs k := ⟨_, rfl⟩
    rw [← hy] at dk HV
    clear hk1 hy
    go_quiet (fail)
    go_wp2_with fail
    go_returns
    exact ⟨1, by rw [HV.out]; rfl, by rw [HN.out, ← HK1.out]; exact HD2.out.of (w' := wx.drewN _) (by simp [World.drewN]) (by simp [World.drewN]) (by simp [World.drewN]), HO2.out.drewN _⟩
  · have hI : ¬ (k : Int) < zs.length := by omega
    have HN : Hid (min (k + 1) zs.length = k) := by show min (k + 1) zs.length = k; omega
    have HV : Hid ((if k < zs.length then nth zs k else 0) = 0) := if_neg hlt
    clear h
    go_enter Tryd.func14, Tryd.ntmps14
    go_wp2_with fail
    refine region_quiet_tail 11 (by kernel_rfl) (by kernel_rfl) ?_
    simp only [List.take_succ_cons, List.take_zero, List.drop_succ_cons, List.drop_zero]
    repeat (go_big_quiet_step (fail))
    refine wpQuiet_nil ?_
    intro _ hw'
    obtain ⟨nq, hw''⟩ := hw'
    subst hw''
    have HD : Hid (Rd ((w.drewN nq).setCell ⟨rd, 2, none⟩ (.bool false)) rd b zs cap k) := (H.out.of (w' := w.drewN nq) (by simp [World.drewN]) (by simp [World.drewN]) (by simp [World.drewN])).set2 false
    have HO : Hid (OnlyB rd w ((w.drewN nq).setCell ⟨rd, 2, none⟩ (.bool false))) := ((OnlyB.refl rd w).drewN nq).set _ _
    have a2 : ((w.drewN nq).setCell ⟨rd, 2, none⟩ (.bool false)).cell? ⟨rd, 2, none⟩ = some (.bool false) := World.cell?_setCell_same' _ _ _ (by rw [(below_drewN (Below.refl w.heap.size w) nq).cell lt, c2]; rfl)
    go_wp2_with fail
    go_returns
    exact ⟨0, by rw [HV.out]; rfl, by rw [HN.out]; exact HD.out, HO.out⟩
end Go.Proofs.YtbkapklnfnopeaaDoor
