/- laws.FnKey. -/
import Derived.Test.YtkjahndemlladaaDoorKeyGet
import Derived.Test.YtkjahndemlladaaDoorKeyStr
import Derived.Test.YtkjahndemlladaaDoorKeyNameW
import Derived.Test.YtkjahndemlladaaDoorRows
import Derived.LaidSub
import Derived.MakeChecks
namespace Go.Proofs.YtkjahndemlladaaDoor
open Go.RowKit
set_option linter.unusedVariables false
set_option linter.unusedSimpArgs false

theorem keytab_of_laid (w : World) (h : laidMetH Tryd.prog Rows.fnKeyRow.laid w) : KeyTab w := by
  rw [MakeChecks.laidMetH_plain _ _ _ (by kernel_rfl)] at h
  have h2 := h.filter (fun x => x.1 == "given.example/pub-typebar/pub/goprompt._Key_index")
  have e : (Rows.fnKeyRow.laid.filter fun x => x.1 == "given.example/pub-typebar/pub/goprompt._Key_index") = [("given.example/pub-typebar/pub/goprompt._Key_index", Lib.tabData .u16 keyIdx)] := by kernel_rfl
  rw [e] at h2
  exact Lib.tabIs_of_head (g := 0) (t := 35) (e := 34) (n := 88) (by kernel_rfl) (by kernel_rfl) (by kernel_rfl) (by kernel_rfl) (by kernel_rfl) (by kernel_rfl) h2
theorem keytab_below {w w' : World} (h : KeyTab w) (hb : Below w.heap.size w w') : KeyTab w' := by
  have hg : Tryd.prog.globalNamed "given.example/pub-typebar/pub/goprompt._Key_index" = some 0 := by kernel_rfl
  refine var?_below hb hg ?_ h
  unfold KeyTab Lib.TabIs World.var? at h
  simp only [hg, Option.bind_some] at h
  by_cases hh : 0 < w.heap.size
  · exact hh
  · have : w.heap[0]? = none := Array.getElem?_eq_none (by omega)
    rw [this] at h; cases h

set_option maxHeartbeats 1000000 in
theorem keyof_any (s : ByteArray) (k : Nat) (hk : k < 87) (hkl : keyL seqs8 s = k) (w : World) (h : KeyTab w) : Calls Tryd.prog 5 #[.string s] w fun e w' => e = .returned (.string (nameOf k)) ∧ Below w.heap.size w w' := by
  have hcv := run_bytes_of_string (P := Tryd.prog) w 9 24 5 s Tryd.underlying9 Tryd.underlying24 Tryd.underlying5
  have hcell : ∀ j (hj : j < s.data.toList.length), (w.drew.alloc (.cells (bytesRow s (grownCap w s.size 0 5)) 5 ((bytesRow s (grownCap w s.size 0 5)).size, (bytesRow s (grownCap w s.size 0 5)).size + 1))).cell? ⟨w.heap.size, j, none⟩ = some (.int .u8 (s.data.toList[j].toNat : Int)) := fun j hj => by
    have e : (bytesRow s (grownCap w s.size 0 5))[j]? = some (.int .u8 (s.data.toList[j].toNat : Int)) := by
      unfold bytesRow
      rw [Array.getElem?_append_left (by simpa using hj)]
      simp at hj
      simp [hj]
    rw [World.cell?, show (w.drew.alloc (.cells (bytesRow s (grownCap w s.size 0 5)) 5 ((bytesRow s (grownCap w s.size 0 5)).size, (bytesRow s (grownCap w s.size 0 5)).size + 1))).heap[w.heap.size]? = _ from heap_alloc_new w.drew _]
    simpa using e
  obtain ⟨W, hW⟩ : ∃ W, W = w.drew.alloc (.cells (bytesRow s (grownCap w s.size 0 5)) 5 ((bytesRow s (grownCap w s.size 0 5)).size, (bytesRow s (grownCap w s.size 0 5)).size + 1)) := ⟨_, rfl⟩
  have bW : Below w.heap.size w W := by rw [hW]; exact (Below.refl _ _).drew.alloc (Nat.le_refl _) _
  have zW : w.heap.size < W.heap.size := by rw [hW]; simp
  rw [← hW] at hcv hcell
  have HB := Go.Lib.hid fun W' (hb : Below W.heap.size W W') => back_at W' w.heap.size s.data.toList (grownCap w s.size 0 5) (fun j hj => (hb.cell (p := ⟨w.heap.size, j, none⟩) zW).trans (hcell j hj))
  have HG := Go.Lib.hid (getkey_any (some ⟨w.heap.size, 0, none⟩) s.size (grownCap w s.size 0 5) s W HB.out)
  have BW := Go.Lib.hid bW
  have HT := Go.Lib.hid h
  have HKL := Go.Lib.hid hkl
  clear hcell hW bW zW HB h hkl
  generalize grownCap w s.size 0 5 = c at *
  go_enter Tryd.func5, Tryd.ntmps5
  go_wp2_with fail
  refine HG.out.mono ?_
  rintro e w1 ⟨rfl, k1⟩
  rw [HKL.out]
  have K1 := Go.Lib.hid (BW.out.trans (k1.mono BW.out.size))
  have HS := Go.Lib.hid (keystr_any k hk w1 (keytab_below HT.out K1.out))
  clear k1
  go_wp2_with fail
  refine HS.out.mono ?_
  rintro e w2 ⟨rfl, k2⟩
  have K2 := Go.Lib.hid (K1.out.trans (k2.mono K1.out.size))
  clear k2
  go_wp2_with fail
  go_returns
  exact ⟨rfl, K2.out⟩

instance (z : Nat) : Decidable (ctl z) := by unfold ctl; infer_instance
theorem keys_ctl : ∀ z : Fin 27, ctl z.val → keyL seqs8 ⟨#[UInt8.ofNat z.val]⟩ = z.val ∧ nameOf z.val = ctlName z.val := by decide +kernel
theorem keys_map : (mapL.all fun p => decide (0 ≤ keyL seqs8 p.1 ∧ keyL seqs8 p.1 < 87 ∧ nameOf (keyL seqs8 p.1).toNat = p.2)) = true := by decide +kernel
theorem ba_of_beq {a b : ByteArray} (h : (a == b) = true) : a = b := by
  cases a; cases b
  congr 1
  exact eq_of_beq h
theorem atMap_in : ∀ (l : List (ByteArray × ByteArray)) (s : ByteArray), atMap l s = ⟨#[]⟩ ∨ ∃ p ∈ l, s = p.1 ∧ atMap l s = p.2
  | [], _ => .inl rfl
  | p :: l, s => by
    rw [atMap]
    by_cases h : (s == p.1) = true
    · rw [if_pos h]
      exact .inr ⟨p, List.mem_cons_self, ba_of_beq h, rfl⟩
    · rw [if_neg h]
      rcases atMap_in l s with e | ⟨q, hq, h1, h2⟩
      · exact .inl e
      · exact .inr ⟨q, List.mem_cons_of_mem _ hq, h1, h2⟩

/-- What is asked for, and that the key is it. -/
theorem want_any (s : ByteArray) : ∃ want : ByteArray, (∀ w, Calls Tryd.prog 4 #[.string s] w fun e w' => e = .returned (.string want) ∧ Below w.heap.size w w') ∧
    (want = ⟨#[]⟩ ∨ ∀ w, KeyTab w → Calls Tryd.prog 5 #[.string s] w fun e w' => e = .returned (.string want) ∧ Below w.heap.size w w') := by
  by_cases h : ∃ h0 : s.size = 1, ctl (s[0]'(by omega)).toNat
  · obtain ⟨h0, hc⟩ := h
    obtain ⟨z, hz⟩ : ∃ z, z = (s[0]'(by omega)).toNat := ⟨_, rfl⟩
    rw [← hz] at hc
    have hz2 : z < 27 := by unfold ctl at hc; omega
    obtain ⟨e1, e2⟩ := keys_ctl ⟨z, hz2⟩ hc
    simp only at e1 e2
    have es : s = ⟨#[UInt8.ofNat z]⟩ := by
      rw [hz]
      obtain ⟨⟨l⟩⟩ := s
      cases l with
      | nil => cases h0
      | cons b l => cases l with
        | nil => simp [ByteArray.getElem_eq_getElem_data]
        | cons _ _ => cases h0
    refine ⟨ctlName z, fun w => keyname_ctl s z h0 (fun _ => hz.symm) hc w, .inr fun w hw => ?_⟩
    rw [← e2]
    exact keyof_any s z (by omega) (by rw [es]; exact e1) w hw
  · refine ⟨atMap mapL s, fun w => keyname_map s (fun h1 h2 h3 => h ⟨h1, h3⟩) w, ?_⟩
    rcases atMap_in mapL s with e | ⟨p, hp, h1, h2⟩
    · exact .inl e
    · refine .inr fun w hw => ?_
      have hk := List.all_eq_true.1 keys_map p hp
      rw [decide_eq_true_eq] at hk
      obtain ⟨k1, k2, k3⟩ := hk
      rw [h2, ← k3, h1]
      exact keyof_any p.1 (keyL seqs8 p.1).toNat (by omega) (by omega) w hw

namespace fnKey
set_option maxHeartbeats 1000000 in
theorem walk (s : ByteArray) (w : World) (_hs : s.size ≤ maxLen) (hL : laidMetH Tryd.prog Rows.fnKeyRow.laid w) :
    Calls Tryd.prog 3 #[.string s] w fun e w' => e = .returned (.bool true) ∧ Below w.heap.size w w' := by
  have HT := Go.Lib.hid (keytab_of_laid w hL)
  clear hL _hs
  by_cases hb : (2147483647 : Int) < s.size
  · go_enter Tryd.func3, Tryd.ntmps3
    go_wp2_with fail
    go_returns
    exact ⟨rfl, Below.refl _ _⟩
  obtain ⟨want, hkn, hw⟩ := want_any s
  have HKN := Go.Lib.hid hkn
  clear hkn
  have d0 : decide ((2147483647 : Int) < s.size) = false := by simpa using hb
  clear hb
  rcases hw with rfl | hw
  · go_enter Tryd.func3, Tryd.ntmps3
    go_wp2_with fail
    refine (HKN.out w).mono ?_
    rintro e w1 ⟨rfl, k1⟩
    have K1 := Go.Lib.hid k1
    clear k1
    go_wp2_with fail
    go_returns
    exact ⟨rfl, K1.out⟩
  · by_cases he : want = ⟨#[]⟩
    · subst he
      go_enter Tryd.func3, Tryd.ntmps3
      go_wp2_with fail
      refine (HKN.out w).mono ?_
      rintro e w1 ⟨rfl, k1⟩
      have K1 := Go.Lib.hid k1
      clear k1
      go_wp2_with fail
      go_returns
      exact ⟨rfl, K1.out⟩
    · have HW := Go.Lib.hid hw
      have hl : want.toList ≠ [] := fun e => he (ba_extK (by rw [ByteArray.toList_eq] at e; exact e))
      have q1 : want.toList.isEmpty = false := by simpa using hl
      have q2 : (want.toList == []) = false := by simpa using hl
      clear hw he hl
      go_enter Tryd.func3, Tryd.ntmps3
      go_wp2_with fail
      refine (HKN.out w).mono ?_
      rintro e w1 ⟨rfl, k1⟩
      have K1 := Go.Lib.hid k1
      have HT1 := Go.Lib.hid (keytab_below HT.out k1)
      clear k1
      go_wp2_with fail
      refine (HW.out w1 HT1.out).mono ?_
      rintro e w2 ⟨rfl, k2⟩
      have K2 := Go.Lib.hid (K1.out.trans (k2.mono K1.out.size))
      clear k2
      go_wp2_with fail
      go_returns
      exact ⟨rfl, K2.out⟩
end fnKey
end Go.Proofs.YtkjahndemlladaaDoor
