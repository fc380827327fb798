/- A text that is set in: plain, no program in sight. -/
import Derived.Test.YtbibokkclejapaaDoorAsciiText
namespace Go.Proofs.YtbibokkclejapaaDoor
open Go.RowKit
set_option linter.unusedVariables false
set_option linter.unusedSimpArgs false

/-- Bytes set in by n blanks; the flag says that the line has begun. -/
def ind (n : Nat) : Bool → List UInt8 → List UInt8
  | _, [] => []
  | sk, c :: t => (if sk = true then [] else List.replicate n 32) ++ c :: ind n (c != 10) t
/-- Whether a line has begun behind some bytes. -/
def endS (sk : Bool) (l : List UInt8) : Bool := l.foldl (fun _ c => c != 10) sk
theorem ind_snoc (n : Nat) (c : UInt8) : ∀ (l : List UInt8) (sk : Bool), ind n sk (l ++ [c]) = ind n sk l ++ ((if endS sk l = true then [] else List.replicate n 32) ++ [c])
  | [], sk => by cases sk <;> rfl
  | d :: t, sk => by
    have := ind_snoc n c t (d != 10)
    simp only [List.cons_append, ind, this, List.append_assoc]
    rfl
theorem endS_snoc (sk : Bool) (l : List UInt8) (c : UInt8) : endS sk (l ++ [c]) = (c != 10) := by simp [endS]
theorem ind_blanks (n : Nat) (c : UInt8) (r : List UInt8) : ∀ a : Nat, ind n true (List.replicate a 32 ++ c :: r) = List.replicate a 32 ++ c :: ind n (c != 10) r
  | 0 => by simp [ind]
  | a + 1 => by
    rw [List.replicate_succ, List.cons_append, ind, if_pos rfl, List.nil_append, show ((32 : UInt8) != 10) = true by decide, ind_blanks n c r a, List.cons_append]
theorem ind_line (n : Nat) (c : UInt8) (r : List UInt8) (a : Nat) : ind n false (List.replicate a 32 ++ c :: r) = List.replicate (a + n) 32 ++ c :: ind n (c != 10) r := by
  cases a with
  | zero => simp [ind]
  | succ a =>
    rw [List.replicate_succ, List.cons_append, ind, if_neg (by decide), show ((32 : UInt8) != 10) = true by decide, ind_blanks, ← List.cons_append, ← List.replicate_succ, ← List.append_assoc, List.replicate_append_replicate, Nat.add_comm n (a + 1)]
theorem ind_sum (a b : Nat) : ∀ (l : List UInt8) (sk : Bool), ind b sk (ind a sk l) = ind (a + b) sk l
  | [], sk => by simp [ind]
  | c :: t, sk => by
    cases sk
    · rw [ind, if_neg (by decide), ind_line, ind, if_neg (by decide), ind_sum a b t]
    · rw [ind, if_pos rfl, List.nil_append, ind, if_pos rfl, List.nil_append, ind, if_pos rfl, List.nil_append, ind_sum a b t]
theorem ind_length (n : Nat) : ∀ (l : List UInt8) (sk : Bool), (ind n sk l).length ≤ (n + 1) * l.length
  | [], sk => by simp [ind]
  | c :: t, sk => by
    have h := ind_length n t (c != 10)
    rw [ind, List.length_append, List.length_cons, List.length_cons, Nat.mul_succ]
    have : (if sk = true then [] else List.replicate n (32 : UInt8)).length ≤ n := by split <;> simp
    omega
theorem ind_mem (n : Nat) : ∀ (l : List UInt8) (sk : Bool) (c : UInt8), c ∈ ind n sk l → c = 32 ∨ c ∈ l
  | [], sk, c, h => by simp [ind] at h
  | d :: t, sk, c, h => by
    rw [ind] at h
    rcases List.mem_append.1 h with h | h
    · split at h
      · simp at h
      · exact .inl (List.eq_of_mem_replicate h)
    · rcases List.mem_cons.1 h with h | h
      · exact .inr (by rw [h]; simp)
      · rcases ind_mem n t _ c h with h | h
        · exact .inl h
        · exact .inr (List.mem_cons_of_mem _ h)
/-- Printable signs of ASCII, and line feeds. -/
def Pla (l : List UInt8) : Prop := ∀ c ∈ l, c = 10 ∨ (32 ≤ c.toNat ∧ c.toNat ≤ 126)
theorem Pla.ind {l : List UInt8} (h : Pla l) (n : Nat) (sk : Bool) : Pla (ind n sk l) := fun c hc => by
  rcases ind_mem n l sk c hc with rfl | h2
  · exact .inr (by decide)
  · exact h c h2
theorem Pla.ascii {l : List UInt8} (h : Pla l) : ∀ c ∈ l, c.toNat < 128 := fun c hc => by
  rcases h c hc with rfl | h2
  · decide
  · omega
end Go.Proofs.YtbibokkclejapaaDoor
