/- spec.Editor.moveTo; the step of moving to a sign. -/
import Derived.Test.YtoimdbmjpkmkfaaDoorEdBase
namespace Go.Proofs.YtoimdbmjpkmkfaaDoor
open Go.RowKit
set_option linter.unusedVariables false
set_option linter.unusedSimpArgs false

def DoPost (eb : Nat) (m : Int) (l' : List Int) (k' : Nat) (kept' : List Int) (bad' op' : Bool) (w : World) (e : Ending) (w' : World) : Prop :=
  e = .returned (.int .i64 m) ∧ Ed w' eb l' k' kept' bad' op' ∧ EdK eb w w'
/-- What the reference does at a step. -/
def DoOk (e : Ky) (l : List Int) (k : Nat) (kept : List Int) (m : Int) (l' : List Int) (k' : Nat) (kept' : List Int) (bad' op' : Bool) : Prop :=
  ∀ (eb : Nat) (w : World), Ed w eb l k kept false false → Calls Tryd.prog 7 #[.pointer (some ⟨eb, 0, none⟩), e.val] w (DoPost eb m l' k' kept' bad' op' w)

def toldI (T : Bool) : Int := if T then 1 else 0
theorem told_spec (T : Bool) (w : World) : Calls Tryd.prog 18 #[.bool T] w fun e w' => e = .returned (.int .i64 (toldI T)) ∧ w = w' := by
  cases T
  · go_enter Tryd.func18, Tryd.ntmps18
    go_wp2_with fail
    go_returns
    exact ⟨rfl, rfl⟩
  · go_enter Tryd.func18, Tryd.ntmps18
    go_wp2_with fail
    go_returns
    exact ⟨rfl, rfl⟩
theorem told_impl (T : Bool) (w : World) : Calls Tryd.prog 38 #[.bool T] w fun e w' => e = .returned (.int .i64 (toldI T)) ∧ w = w' := by
  cases T
  · exact told_false w
  · exact told_true w

def EdMvPost (eb : Nat) (T : Bool) (l : List Int) (k' : Nat) (kept : List Int) (w : World) (e : Ending) (w' : World) : Prop :=
  e = .returned (.bool T) ∧ Ed w' eb l k' kept false false ∧ EdK eb w w'

set_option maxRecDepth 100000 in
set_option maxHeartbeats 4000000 in
theorem ed_back (eb : Nat) (l : List Int) (k : Nat) (kept : List Int) (c : Int) (short : Bool) (w : World) (h : Ed w eb l k kept false false) (hk : k ≤ l.length) (hl : l.length ≤ 100000) :
    Calls Tryd.prog 31 #[.pointer (some ⟨eb, 0, none⟩), .int .i32 c, .bool short, .bool true] w (EdMvPost eb (mvT true l c k) l (mvK short true l c k) kept w) := by
  obtain ⟨A, cap, B, cap2, hv⟩ := h
  have HV0 := Go.Lib.hid hv
  have c1 := hv.c1
  have sz := hv.sz
  clear hv
  have hw : IntKind.i64.wrap ((k : Int) - 1) = (k : Int) - 1 := IntWalk.i64_in _ (by omega)
  go_enter Tryd.func31, Tryd.ntmps31
  go_wp2_with fail
  go_quiet (fail)
  generalize nq = nq1
  go_wp2_with fail
  go_quiet (fail)
  go_wp2_with fail
  have HV : Hid (EdV ((w.drewN nq1).drewN nq) eb l k kept false false A cap B cap2) := HV0.out.same (below_drewN (below_drewN (Below.refl _ _) _) _)
  have K0 : Hid (EdK eb w ((w.drewN nq1).drewN nq)) := .of (below_drewN (below_drewN (Below.refl _ _) _) _)
  generalize (w.drewN nq1).drewN nq = W at HV K0 ⊢
  clear HV0 c1 sz hw
  have HROW := Go.Lib.hid HV.out.r0
  have hle := HV.out.lc
  have c0 := HV.out.c0
  have c1 := HV.out.c1
  have f1 := HV.out.f 1
  have sz := HV.out.sz
  go_loop [10] (fun x => ∃ z : Int, x = .int .i64 z ∧ -1 ≤ z ∧ z < k ∧ Hid (lastTo l c k = lastTo l c (z + 1).toNat)) (fun x => (intOf x + 1).toNat)
  case atStart => exact ⟨(k : Int) - 1, rfl, by omega, by omega, by rw [Hid]; congr 1; omega⟩
  case round =>
    obtain ⟨z, rfl, hz1, hz2, HR⟩ := hrel
    by_cases hz : 0 ≤ z
    · obtain ⟨m, hm⟩ := Int.eq_ofNat_of_zero_le hz
      subst hm
      have hml : m < l.length := by omega
      rcases HROW.out with e0 | ⟨g, off, rfl, hgl, hg, hcc⟩
      · rw [e0] at hml; simp at hml
      have cg := hcc m hml
      have hb1 : (m : Int) < l.length := by omega
      have hb0 : (0 : Int) ≤ m := by omega
      clear hcc
      by_cases e : nth l m = c
      · have HF : Hid (mvR true l c k = (m : Nat)) := by
          rw [Hid, mvR, if_pos rfl, HR.out, show ((m : Int) + 1).toNat = m + 1 by omega, lastTo, if_pos e]
        have e' : (nth l m == c) = true := by simp [e]
        generalize nth l m = x at cg e'
        clear e
        have HT := Go.Lib.hid (mv_some HF.out short)
        cases short
        · go_wp2_with fail
          go_returns
          refine ⟨by rw [HT.out.1]; rfl, ?_, K0.out.set _ _⟩
          rw [HT.out.2]; exact ⟨_, _, _, _, HV.out.at m⟩
        · have hw : IntKind.i64.wrap ((m : Int) - -1) = ((m + 1 : Nat) : Int) := by rw [IntWalk.i64_in _ (by omega)]; omega
          have hw' : IntKind.i64.wrap ((m : Int) + 1) = ((m + 1 : Nat) : Int) := by rw [IntWalk.i64_in _ (by omega)]; omega
          obtain ⟨m2, hm2⟩ : ∃ m2, m2 = m + 1 := ⟨_, rfl⟩
          have HK : Hid (mvK true true l c k = m2) := by rw [Hid, (mv_some HF.out true).2, hm2]; rfl
          rw [← hm2] at hw hw'
          clear hm2
          go_wp2_with fail
          go_returns
          refine ⟨by rw [HT.out.1]; rfl, ?_, (K0.out.set _ _).set _ _⟩
          rw [HK.out]; exact ⟨_, _, _, _, (HV.out.at m).at m2⟩
      · have HF : Hid (lastTo l c k = lastTo l c m) := by
          rw [Hid, HR.out, show ((m : Int) + 1).toNat = m + 1 by omega, lastTo, if_neg e]
        have e' : (nth l m == c) = false := by simp [e]
        generalize nth l m = x at cg e'
        clear e
        go_wp2_with fail
        go_round
        case rel => exact ⟨(m : Int) - 1, by go_num, by omega, by omega, by rw [Hid, HF.out]; congr 1; omega⟩
        case measure => simp [intOf] <;> omega
    · have HF : Hid (mvR true l c k = -1) := by
        rw [Hid, mvR, if_pos rfl, HR.out, show (z + 1).toNat = 0 by omega]
        try rfl
      have HT := Go.Lib.hid (mv_none HF.out short)
      have hz' : decide (0 ≤ z) = false := by simpa using hz
      go_wp2_with fail
      go_returns
      refine ⟨by rw [HT.out.1]; rfl, ?_, K0.out⟩
      rw [HT.out.2]; exact ⟨_, _, _, _, HV.out⟩

set_option maxRecDepth 100000 in
set_option maxHeartbeats 4000000 in
theorem ed_on (eb : Nat) (l : List Int) (k : Nat) (kept : List Int) (c : Int) (short : Bool) (w : World) (h : Ed w eb l k kept false false) (hk : k ≤ l.length) (hl : l.length ≤ 100000) :
    Calls Tryd.prog 31 #[.pointer (some ⟨eb, 0, none⟩), .int .i32 c, .bool short, .bool false] w (EdMvPost eb (mvT false l c k) l (mvK short false l c k) kept w) := by
  obtain ⟨A, cap, B, cap2, hv⟩ := h
  have HV0 := Go.Lib.hid hv
  have c1 := hv.c1
  have sz := hv.sz
  clear hv
  have hw : IntKind.i64.wrap ((k : Int) - 1) = (k : Int) - 1 := IntWalk.i64_in _ (by omega)
  go_enter Tryd.func31, Tryd.ntmps31
  go_wp2_with fail
  go_quiet (fail)
  go_wp2_with fail
  have HV : Hid (EdV (w.drewN nq) eb l k kept false false A cap B cap2) := HV0.out.same (below_drewN (Below.refl _ _) _)
  have K0 : Hid (EdK eb w (w.drewN nq)) := .of (below_drewN (Below.refl _ _) _)
  generalize w.drewN nq = W at HV K0 ⊢
  clear HV0 c1 sz hw
  have HROW := Go.Lib.hid HV.out.r0
  have hle := HV.out.lc
  have c0 := HV.out.c0
  have c1 := HV.out.c1
  have f1 := HV.out.f 1
  have sz := HV.out.sz
  go_loop [10] (fun x => ∃ m : Nat, x = .int .i64 m ∧ k < m ∧ m ≤ l.length + 1 ∧ Hid (firstFrom l c (k + 1) = firstFrom l c m)) (fun x => l.length + 1 - (intOf x).toNat)
  case atStart => exact ⟨k + 1, by go_num, by omega, by omega, rfl⟩
  case round =>
    obtain ⟨m, rfl, hz1, hz2, HR⟩ := hrel
    by_cases hml : m < l.length
    · have HST := Go.Lib.hid (firstFrom_step l c m hml)
      rcases HROW.out with e0 | ⟨g, off, rfl, hgl, hg, hcc⟩
      · rw [e0] at hml; simp at hml
      have cg := hcc m hml
      have hb1 : (m : Int) < l.length := by omega
      have hb0 : (0 : Int) ≤ m := by omega
      clear hcc
      by_cases e : nth l m = c
      · have HF : Hid (mvR false l c k = (m : Nat)) := by
          have h1 := HST.out
          rw [if_pos e] at h1
          rw [Hid, mvR, if_neg (by decide), HR.out, h1]
        have e' : (nth l m == c) = true := by simp [e]
        generalize nth l m = x at cg e' HST
        clear e HST
        have HT := Go.Lib.hid (mv_some HF.out short)
        cases short
        · go_wp2_with fail
          go_returns
          refine ⟨by rw [HT.out.1]; rfl, ?_, K0.out.set _ _⟩
          rw [HT.out.2]; exact ⟨_, _, _, _, HV.out.at m⟩
        · have hw : IntKind.i64.wrap ((m : Int) - 1) = ((m - 1 : Nat) : Int) := by rw [IntWalk.i64_in _ (by omega)]; omega
          have hw' : IntKind.i64.wrap ((m : Int) - 1) = ((m - 1 : Nat) : Int) := by rw [IntWalk.i64_in _ (by omega)]; omega
          obtain ⟨m2, hm2⟩ : ∃ m2, m2 = m - 1 := ⟨_, rfl⟩
          have HK : Hid (mvK true false l c k = m2) := by rw [Hid, (mv_some HF.out true).2, hm2]; rfl
          rw [← hm2] at hw hw'
          clear hm2
          go_wp2_with fail
          go_returns
          refine ⟨by rw [HT.out.1]; rfl, ?_, (K0.out.set _ _).set _ _⟩
          rw [HK.out]; exact ⟨_, _, _, _, (HV.out.at m).at m2⟩
      · have HF : Hid (firstFrom l c (k + 1) = firstFrom l c (m + 1)) := by
          have h1 := HST.out
          rw [if_neg e] at h1
          rw [Hid, HR.out, h1]
        have e' : (nth l m == c) = false := by simp [e]
        generalize nth l m = x at cg e' HST
        clear e HST
        go_wp2_with fail
        go_round
        case rel => exact ⟨m + 1, by go_num, by omega, by omega, HF.out⟩
        case measure => simp [intOf] <;> omega
    · have HF : Hid (mvR false l c k = -1) := by
        rw [Hid, mvR, if_neg (by decide), HR.out, firstFrom_end l c m (by omega)]
      have HT := Go.Lib.hid (mv_none HF.out short)
      have hz' : ¬ (m : Int) < l.length := by omega
      have hz0 : (0 : Int) ≤ m := by omega
      have hz'' : decide ((m : Int) < l.length) = false := by simpa using hz'
      go_wp2_with fail
      go_returns
      refine ⟨by rw [HT.out.1]; rfl, ?_, K0.out⟩
      rw [HT.out.2]; exact ⟨_, _, _, _, HV.out⟩

theorem ed_moveTo (eb : Nat) (l : List Int) (k : Nat) (kept : List Int) (c : Int) (short back : Bool) (w : World) (h : Ed w eb l k kept false false) (hk : k ≤ l.length) (hl : l.length ≤ 100000) :
    Calls Tryd.prog 31 #[.pointer (some ⟨eb, 0, none⟩), .int .i32 c, .bool short, .bool back] w (EdMvPost eb (mvT back l c k) l (mvK short back l c k) kept w) := by
  cases back
  · exact ed_on eb l k kept c short w h hk hl
  · exact ed_back eb l k kept c short w h hk hl

set_option maxRecDepth 100000 in
set_option maxHeartbeats 1000000 in
theorem more_move (eb : Nat) (l : List Int) (k : Nat) (kept : List Int) (s : ByteArray) (c : Int) (short back : Bool) (w : World) (h : Ed w eb l k kept false false) (hk : k ≤ l.length) (hl : l.length ≤ 100000) (hc0 : 0 ≤ c) (hc1 : c ≤ 1114111) :
    Calls Tryd.prog 20 #[.pointer (some ⟨eb, 0, none⟩), .agg #[.int .i64 19, .string s, .int .i64 c, .bool short, .bool back]] w (DoPost eb (toldI (mvT back l c k)) l (mvK short back l c k) kept false false w) := by
  have H1 : Hid (Ed (w.alloc (.cells #[.int .i64 19, .string s, .int .i64 c, .bool short, .bool back] 30)) eb l k kept false false) := h.same ((Below.refl _ _).alloc (Nat.le_refl _) _)
  obtain ⟨A, cap, B, cap2, hv⟩ := H1.out
  have c0 := hv.c0
  have hc32 : IntKind.i32.wrap c = c := IntWalk.i32_in _ (by omega)
  clear h hv
  obtain ⟨T, hT⟩ : ∃ T, T = mvT back l c k := ⟨_, rfl⟩
  obtain ⟨k', hk'⟩ : ∃ k', k' = mvK short back l c k := ⟨_, rfl⟩
  have HM := Go.Lib.hid (ed_moveTo eb l k kept c short back _ H1.out hk hl)
  rw [← hT, ← hk'] at HM ⊢
  clear hT hk'
  go_enter Tryd.func20, Tryd.ntmps20
  go_wp2_with fail
  refine HM.out.mono ?_
  rintro e w1 ⟨rfl, h1, o1⟩
  have HE := Go.Lib.hid h1
  have O1 : Hid (EdK eb w w1) := ((EdK.refl _ _).alloc _).trans o1
  clear h1 o1
  go_wp2_with fail
  refine (told_spec T _).mono ?_
  rintro e w2 ⟨rfl, rfl⟩
  go_wp2_with fail
  go_returns
  exact ⟨rfl, HE.out, O1.out⟩

set_option maxRecDepth 100000 in
set_option maxHeartbeats 1000000 in
theorem do_move (l : List Int) (k : Nat) (kept : List Int) (s : ByteArray) (c : Int) (short back : Bool) (hk : k ≤ l.length) (hl : l.length ≤ 100000) (hc0 : 0 ≤ c) (hc1 : c ≤ 1114111) :
    DoOk ⟨19, s, c, short, back⟩ l k kept (toldI (mvT back l c k)) l (mvK short back l c k) kept false false := fun eb w h => by
  have H1 : Hid (Ed (w.alloc (.cells #[.int .i64 19, .string s, .int .i64 c, .bool short, .bool back] 30)) eb l k kept false false) := h.same ((Below.refl _ _).alloc (Nat.le_refl _) _)
  obtain ⟨A, cap, B, cap2, hv⟩ := H1.out
  have c0 := hv.c0
  have c3 := hv.c3
  have c4 := hv.c4
  have HM := Go.Lib.hid (more_move eb l k kept s c short back _ H1.out hk hl hc0 hc1)
  clear h hv
  unfold Ky.val
  obtain ⟨T, hT⟩ : ∃ T, T = mvT back l c k := ⟨_, rfl⟩
  obtain ⟨k', hk'⟩ : ∃ k', k' = mvK short back l c k := ⟨_, rfl⟩
  rw [← hT, ← hk'] at HM ⊢
  clear hT hk'
  go_enter Tryd.func7, Tryd.ntmps7
  go_wp2_with fail
  refine HM.out.mono ?_
  rintro e w1 ⟨rfl, h1, o1⟩
  have HE := Go.Lib.hid h1
  have O1 : Hid (EdK eb w w1) := ((EdK.refl _ _).alloc _).trans o1
  clear h1 o1
  go_wp2_with fail
  go_returns
  exact ⟨rfl, HE.out, O1.out⟩
end Go.Proofs.YtoimdbmjpkmkfaaDoor
