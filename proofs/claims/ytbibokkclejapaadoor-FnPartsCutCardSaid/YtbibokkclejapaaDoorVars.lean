/- The named variables of a world, read again in a later world that kept what lay below its size. -/
import Derived.WalkSmall
import Derived.ChangeOld
import Derived.ChangeVars
import Derived.WideKeyArgs
import Derived.Carry
import Derived.ProofKit
namespace Go.Proofs.YtbibokkclejapaaDoor
open Go Go.RowKit

def varsRead (P : Program) (ns : List String) : Bool :=
  ns.all fun n => match P.globalNamed n with
    | some g => (match (P.globals[g]?).map (·.type) with
      | some t => P.readableRec t && decide (t < P.types.size)
      | none => true)
    | none => true

theorem var_lt {P : Program} {W : World} {n : String} {g : Nat} {cs : Array Value} (hg : P.globalNamed n = some g) (hv : W.var? P n = some cs) : g < W.heap.size := by
  unfold World.var? at hv
  simp only [hg, Option.bind_some] at hv
  by_cases h : g < W.heap.size
  · exact h
  · have : W.heap[g]? = none := by simp; omega
    rw [this] at hv; cases hv

theorem trodVars_below {H : Type} {enc : TypeId × Value → H} {P : Program} (hl : laidOutB P = true) {W W' : World} (hb : Below W.heap.size W W') :
    ∀ {ns : List String} {gs : List (DataW H)} {q : List MemPlace}, varsRead P ns = true → DataW.TrodVars enc P W (fun _ => true) ns gs q →
      DataW.TrodVars enc P W' (fun b => decide (b < W.heap.size)) ns gs q
  | [], [], q, _, h => h
  | [], _ :: _, q, _, h => by simp [DataW.TrodVars] at h
  | _ :: _, [], q, _, h => by simp [DataW.TrodVars] at h
  | n :: ns, d :: ds, q, hr, h => by
    obtain ⟨g, t, cs, fuel, p, q', h1, h2, h3, h4, h5, rfl⟩ := h
    simp only [varsRead, List.all_cons, Bool.and_eq_true] at hr
    obtain ⟨hr1, hr2⟩ := hr
    rw [h1] at hr1
    simp only [h2, Bool.and_eq_true, decide_eq_true_eq] at hr1
    have hlt : ∀ x ∈ p, x.block < W.heap.size := DataW.trod_lt fuel t _ _ h4
    refine ⟨g, t, cs, fuel, p, q', h1, h2, var?_below hb h1 (var_lt h1 h3) h3, ?_, trodVars_below hl hb hr2 h5, rfl⟩
    exact DataW.trod_stays (kids_book hl hr1.1) (book_sized hr1.1) (fun h => by cases h) ⟨hr1.2, book_self t⟩ h4 (fun x hx => hb.same (hlt x hx)) (fun x hx => by simpa using hlt x hx)

end Go.Proofs.YtbibokkclejapaaDoor
