/- laws.FnWroteBack. -/
import Derived.Test.YtcjpkgomadhnpaaDoorWroteBack
import Derived.MakeChecks
import Derived.LaidSub
namespace Go.Proofs.YtcjpkgomadhnpaaDoor
open Go.RowKit
set_option linter.unusedVariables false
set_option linter.unusedSimpArgs false

theorem pow_of_laid (w : World) (h : laidMetH Tryd.prog Rows.fnWroteBackRow.laid w) : Pow w := by
  rw [MakeChecks.laidMetH_plain _ _ _ (by kernel_rfl)] at h
  have h2 := h.filter (fun x => x.1 == "internal/strconv.uint64pow10")
  have e : (Rows.fnWroteBackRow.laid.filter fun x => x.1 == "internal/strconv.uint64pow10") = [("internal/strconv.uint64pow10", Lib.tabData .u64 Lib.pow10Tab)] := by kernel_rfl
  rw [e] at h2
  exact Lib.tabIs_of_head (g := 0) (t := 52) (e := 45) (n := 20) (by kernel_rfl) (by kernel_rfl) (by kernel_rfl) (by kernel_rfl) (by kernel_rfl) (by kernel_rfl) h2

theorem mv_neg (n : Int) (L O : UInt8) : mvSeq (-n) O L = mvSeq n L O := by
  unfold mvSeq
  by_cases h0 : n = 0
  · subst h0; rfl
  · rw [if_neg (by omega), if_neg h0]
    by_cases h1 : n < 0
    · rw [if_pos h1, if_neg (by omega)]
    · rw [if_neg h1, if_pos (by omega), Int.neg_neg]
theorem mv_len (n : Int) (L O : UInt8) (h0 : -9999 ≤ n) (h1 : n ≤ 9999) : (mvSeq n L O).length ≤ 100 := by
  unfold mvSeq
  have := seqN_len (-n) O (by omega) (by omega)
  have := seqN_len n L (by omega) (by omega)
  split
  · simp
  · split <;> omega
theorem mv_empty (n : Int) (L O : UInt8) : (strB (mvSeq n L O)).toList.isEmpty = (n == 0) := by
  rw [ByteArray.toList_eq]
  unfold mvSeq
  by_cases h0 : n = 0
  · subst h0; rfl
  · rw [if_neg h0, show (n == 0) = false by simpa using h0]
    split <;> rfl

theorem made_one (w : World) (op n : Int) (q : List UInt8) (hm : MoveOk op n q) (hp : Pow w) (h0 : -99999 ≤ n) (h1 : n ≤ 99999) (hq : q.length ≤ 100) :
    Calls Tryd.prog 4 #[.slice (some ⟨w.heap.size, 0, none⟩) 1 1] (w.alloc (.cells #[.int .i64 op, .int .i64 n, .int .i64 0, .string ⟨#[]⟩] 25)) fun e w' => e = .returned (.tuple #[.string (strB q), .bool true]) ∧ Below w.heap.size w w' := by
  have bk : Below w.heap.size w (w.alloc (.cells #[.int .i64 op, .int .i64 n, .int .i64 0, .string ⟨#[]⟩] 25)) := (Below.refl _ _).alloc (Nat.le_refl _) _
  exact (wrote_one op n q hm w.heap.size _ (hp.below bk) (by simp) h0 h1 hq (by simp [go_sem]) (by simp [go_sem]) (by simp [go_sem]) (by simp [go_sem])).mono fun e w' ⟨he, hb⟩ => ⟨he, bk.trans (hb.mono (by simp))⟩

namespace fnWroteBack
set_option maxRecDepth 100000 in
set_option maxHeartbeats 1000000 in
theorem walk (n : Int) (w : World) (_hn : (Lit.int .i64 n).wf = true) (hL : laidMetH Tryd.prog Rows.fnWroteBackRow.laid w) :
    Calls Tryd.prog 3 #[.int .i64 n] w fun e w' => e = .returned (.bool true) ∧ Below w.heap.size w w' := by
  have HP := Go.Lib.hid (pow_of_laid w hL)
  clear hL _hn
  by_cases b0 : n < -9999
  · go_enter Tryd.func3, Tryd.ntmps3
    go_wp2_with fail
    go_returns
    exact ⟨rfl, Below.refl _ _⟩
  by_cases b1 : 9999 < n
  · have d0 : decide (n < -9999) = false := by simpa using b0
    go_enter Tryd.func3, Tryd.ntmps3
    go_wp2_with fail
    go_returns
    exact ⟨rfl, Below.refl _ _⟩
  have d0 : decide (n < -9999) = false := by simpa using b0
  have d1 : decide (9999 < n) = false := by simpa using b1
  have hneg : IntKind.i64.wrap (-n) = -n := IntWalk.i64_in _ (by omega)
  have HA := Go.Lib.hid fun w hp => made_one w 3 n (mvSeq n 65 66) (wrote_up n (by omega) (by omega)) hp (by omega) (by omega) (mv_len _ _ _ (by omega) (by omega))
  have HB := Go.Lib.hid fun w hp => made_one w 4 (-n) (mvSeq (-n) 66 65) (wrote_down (-n) (by omega) (by omega)) hp (by omega) (by omega) (mv_len _ _ _ (by omega) (by omega))
  have HC := Go.Lib.hid fun w hp => made_one w 5 n (mvSeq n 67 68) (wrote_forward n (by omega) (by omega)) hp (by omega) (by omega) (mv_len _ _ _ (by omega) (by omega))
  have HD := Go.Lib.hid fun w hp => made_one w 6 (-n) (mvSeq (-n) 68 67) (wrote_backward (-n) (by omega) (by omega)) hp (by omega) (by omega) (mv_len _ _ _ (by omega) (by omega))
  rw [mv_neg] at HB HD
  have ea := mv_empty n 65 66
  have ec := mv_empty n 67 68
  generalize strB (mvSeq n 65 66) = sa at HA HB ea
  generalize strB (mvSeq n 67 68) = sc at HC HD ec
  have EA := Go.Lib.hid ea
  have EC := Go.Lib.hid ec
  clear ea ec b0 b1
  go_enter Tryd.func3, Tryd.ntmps3
  go_wp2_with fail
  refine (HA.out w HP.out).mono ?_
  rintro e w1 ⟨rfl, k1⟩
  have HP1 := Go.Lib.hid (Pow.below HP.out k1)
  have K1 := Go.Lib.hid k1
  clear k1
  go_wp2_with fail
  refine (HB.out w1 HP1.out).mono ?_
  rintro e w2 ⟨rfl, k2⟩
  have HP2 := Go.Lib.hid (Pow.below HP1.out k2)
  have K2 := Go.Lib.hid (K1.out.trans (k2.mono K1.out.size))
  clear k2
  go_wp2_with fail
  refine (HC.out w2 HP2.out).mono ?_
  rintro e w3 ⟨rfl, k3⟩
  have HP3 := Go.Lib.hid (Pow.below HP2.out k3)
  have K3 := Go.Lib.hid (K2.out.trans (k3.mono K2.out.size))
  clear k3
  go_wp2_with fail
  refine (HD.out w3 HP3.out).mono ?_
  rintro e w4 ⟨rfl, k4⟩
  have K4 := Go.Lib.hid (K3.out.trans (k4.mono K3.out.size))
  clear k4
  have ea := EA.out
  have ec := EC.out
  by_cases h0 : n = 0
  · subst h0
    have ea' : sa.toList.isEmpty = true := ea
    have ec' : sc.toList.isEmpty = true := ec
    clear ea ec
    go_wp2_with fail
    go_returns
    exact ⟨rfl, K4.out⟩
  · have e0 : (n == 0) = false := by simpa using h0
    rw [e0] at ea ec
    clear h0
    go_wp2_with fail
    go_returns
    exact ⟨rfl, K4.out⟩
end fnWroteBack
end Go.Proofs.YtcjpkgomadhnpaaDoor
