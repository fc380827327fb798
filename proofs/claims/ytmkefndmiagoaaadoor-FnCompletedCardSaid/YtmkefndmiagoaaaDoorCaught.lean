/- The contract of impl.caught: a function value that returns leaves true, one that panics leaves false. -/
import Derived.Test.YtmkefndmiagoaaaDoorWords
namespace Go.Proofs.YtmkefndmiagoaaaDoor
open Go.RowKit

theorem catch_idle (p : Addr) (w : World) :
    CallsD Tryd.prog 26 #[.pointer (some p)] .returning w fun e u' w' => e = .returned (.tuple #[]) ∧ u' = .returning ∧ w' = w := by
  refine callsD_of_wpS Tryd.func26 rfl fun c₀ cs hu => ?_
  apply wpS_seq
  apply wpS_region
  simp [wpOpsS, go_sem, recoverD, hu, Tryd.ntmps26, Exit.thenS]
  refine wpS_cond (t := false) (by simp [Act.eval, Array.replicate]) ?_
  simp only [Bool.false_eq_true, if_false]
  refine wpS_of_wp (wp_skip ?_)
  cases c₀
  simp_all [bodyPostS, results, Tryd.results26]

theorem catch_panicking (p : Addr) (x : Value) (u : TypeId) (pv : Value) (older : List PanicEntry) (w : World) (hc : w.cell? p = some x) (hx : x = .bool false) (hz : w.frozen? p = false) :
    CallsD Tryd.prog 26 #[.pointer (some p)] (.panicking ({ v := .iface u pv, recovered := false } :: older)) w fun e u' w' =>
      e = .returned (.tuple #[]) ∧ u' = .panicking ({ v := .iface u pv, recovered := true } :: older) ∧ w' = w.setCell p (.bool false) := by
  subst hx
  refine callsD_of_wpS Tryd.func26 rfl fun c₀ cs hu => ?_
  apply wpS_seq
  apply wpS_region
  simp [wpOpsS, go_sem, recoverD, hu, Tryd.ntmps26, Exit.thenS]
  refine wpS_cond (t := true) (by simp [Act.eval, Array.replicate]) ?_
  simp only [if_true]
  apply wpS_region
  simp [wpOpsS, go_sem, hc, hz, bodyPostS, results, Tryd.results26]

theorem caught_ret (k : Nat) (caps : Array Value) (w : World) (R : World → Prop) (eg : ∀ args w, (callFunc k args).run Tryd.prog w = .ok (.enter k args) w)
    (h : Calls Tryd.prog k caps (w.alloc (.cells #[.bool false] 4)) fun e w' => e = .returned (.tuple #[]) ∧ (R w' ∧ w'.cell? ⟨w.heap.size, 0, none⟩ = some (.bool false) ∧ w'.frozen? ⟨w.heap.size, 0, none⟩ = false)) :
    Calls Tryd.prog 19 #[.func (.func k) #[] caps] w fun e w' => e = .returned (.bool true) ∧ ∃ w1, R w1 ∧ w' = w1.setCell ⟨w.heap.size, 0, none⟩ (.bool true) := by
  have hmf : ∀ (fn : Fn) (first cap : Array Value) (w : World), (Instr.makeFunc fn first cap).run Tryd.prog w = .ok (.func fn first cap) w := fun _ _ _ _ => rfl
  have H := Go.Lib.hid h
  clear h
  go_enter_defers Tryd.func19, Tryd.ntmps19
  go_wp2_with fail
  refine (H.out).mono ?_
  rintro e w1 ⟨rfl, hR, hc, hf⟩
  go_wp2
  refine leaves_cons (f := 26) (args := #[.pointer (some ⟨w.heap.size, 0, none⟩)]) (by simp) (by simp [go_sem]) ?_
  refine (catch_idle ⟨w.heap.size, 0, none⟩ _).mono ?_
  rintro e u' w'' ⟨rfl, rfl, rfl⟩
  have hcc := World.cell?_setCell_same' w1 ⟨w.heap.size, 0, none⟩ (.bool true) (by rw [hc]; rfl)
  simp [Leaves, settle, results, Tryd.results19, go_sem, hcc]
  exact ⟨w1, hR, rfl⟩

theorem caught_panic (k : Nat) (caps : Array Value) (w : World) (R : World → Prop) (eg : ∀ args w, (callFunc k args).run Tryd.prog w = .ok (.enter k args) w)
    (h : Calls Tryd.prog k caps (w.alloc (.cells #[.bool false] 4)) fun e w' => ∃ u pv, e = .panicked [{ v := .iface u pv, recovered := false }] ∧ (R w' ∧ w'.cell? ⟨w.heap.size, 0, none⟩ = some (.bool false) ∧ w'.frozen? ⟨w.heap.size, 0, none⟩ = false)) :
    Calls Tryd.prog 19 #[.func (.func k) #[] caps] w fun e w' => e = .returned (.bool false) ∧ ∃ w1, R w1 ∧ w' = w1.setCell ⟨w.heap.size, 0, none⟩ (.bool false) := by
  have hmf : ∀ (fn : Fn) (first cap : Array Value) (w : World), (Instr.makeFunc fn first cap).run Tryd.prog w = .ok (.func fn first cap) w := fun _ _ _ _ => rfl
  have H := Go.Lib.hid h
  clear h
  go_enter_defers Tryd.func19, Tryd.ntmps19
  go_wp2_with fail
  refine (H.out).mono ?_
  rintro e w1 ⟨u, pv, rfl, hR, hc, hf⟩
  go_wp2
  refine leaves_cons (f := 26) (args := #[.pointer (some ⟨w.heap.size, 0, none⟩)]) (by simp) (by simp [go_sem]) ?_
  refine (catch_panicking ⟨w.heap.size, 0, none⟩ _ u pv [] _ hc rfl hf).mono ?_
  rintro e u' w'' ⟨rfl, rfl, rfl⟩
  have hcc := World.cell?_setCell_same' w1 ⟨w.heap.size, 0, none⟩ (.bool false) (by rw [hc]; rfl)
  simp [Leaves, settle, results, Tryd.results19, go_sem, hcc]
  exact ⟨w1, hR, rfl⟩
end Go.Proofs.YtmkefndmiagoaaaDoor
