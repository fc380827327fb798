/- readline.ReadEscKey, impl.EscapeRead. -/
import Derived.Test.YtbkapklnfnopeaaDoorEscKey
import Derived.Test.YtbkapklnfnopeaaDoorAsciiText
import Derived.Test.YtbkapklnfnopeaaDoorRbBase
namespace Go.Proofs.YtbkapklnfnopeaaDoor
open Go.RowKit
set_option linter.unusedVariables false
set_option linter.unusedSimpArgs false

theorem bdn {B : Nat} {a w : World} (h : Below B a w) (n : Nat) : Below B a (w.drewN n) := h.trans ⟨rfl, rfl, rfl, Nat.le_refl _, fun _ _ => rfl⟩

theorem row_made (w : World) (s : ByteArray) (hs : s.size ≤ 1000) :
    ∃ cap W, (convert 9 28 (.string s)).run Tryd.prog w = .ok (.slice (some ⟨w.heap.size, 0, none⟩) (runes s).length cap) W ∧ (runes s).length ≤ cap ∧ (∀ j, j < (runes s).length → W.cell? ⟨w.heap.size, j, none⟩ = some (.int .i32 (nth (runes s) j))) ∧ Below w.heap.size w W ∧ w.heap.size < W.heap.size := by
  have hcv := run_runes (P := Tryd.prog) w 9 28 21 s Tryd.underlying9 Tryd.underlying28 Tryd.underlying21 (by omega)
  have hge := runeCap_ge w 21 s
  refine ⟨_, _, hcv, hge, fun j hj => ?_, ((Below.refl _ _).drew).alloc (Nat.le_refl _) _, by simp⟩
  simp [runeCells_at s _ j hj, go_sem]

theorem add_flatE (b off j : Nat) : (⟨b, off, none⟩ : Addr).add j = ⟨b, off + j, none⟩ := by
  unfold Addr.add
  by_cases e : j = 0
  · rw [if_pos e, e]; rfl
  · rw [if_neg e]

def ReadKeyPost (a : ByteArray) (bb : Nat) (zs : List Int) (w : World) (e : Ending) (w' : World) : Prop :=
  ∃ j o cp, AttrEnd a j ∧ e = .returned (.tuple #[.string ⟨(a.data.toList.take j).toArray⟩, .int .i32 (lastOf a j), .slice (some ⟨bb, o, none⟩) (zs.length - min j zs.length) cp]) ∧ (∀ i, i < zs.length - min j zs.length → w'.cell? ⟨bb, o + i, none⟩ = some (.int .i32 (nth zs (min j zs.length + i)))) ∧ Below w.heap.size w w'

set_option maxHeartbeats 2000000 in
theorem readkey_any (c : UInt8) (rest : ByteArray) (bb cap : Nat) (w : World) (hc : c.toNat < 128) (hA : IsAscii rest) (hs : rest.size ≤ 100) (hrow : ∀ j, j < (runes rest).length → w.cell? ⟨bb, j, none⟩ = some (.int .i32 (nth (runes rest) j))) (hbb : bb < w.heap.size) (hcap : (runes rest).length ≤ cap) (hp : PC w) :
    Calls Tryd.prog 8 #[.int .i32 (c.toNat : Nat), .slice (some ⟨bb, 0, none⟩) (runes rest).length cap] w (ReadKeyPost (signed c rest) bb (runes rest) w) := by
  have hb0 : Below w.heap.size w (w.alloc (.cells #[.slice (some ⟨bb, 0, none⟩) (runes rest).length cap, .int .i64 0, .bool false] 34)) := (Below.refl _ _).alloc (Nat.le_refl _) _
  have hrd : Rd (w.alloc (.cells #[.slice (some ⟨bb, 0, none⟩) (runes rest).length cap, .int .i64 0, .bool false] 34)) w.heap.size bb (runes rest) cap 0 :=
    ⟨by simp [go_sem], by simp [go_sem], ⟨false, by simp [go_sem]⟩, fun j => by simp [go_sem], fun j hj => (hb0.cell (p := ⟨bb, j, none⟩) hbb).trans (hrow j hj), by omega, by simp, by simp; omega⟩
  have HK := Go.Lib.hid (key_any c rest w.heap.size bb cap _ hc hA hs hrd hcap (hp.of (hb0.block 0 hp.1) hb0.size) hp.1)
  have HB0 := Go.Lib.hid hb0
  obtain ⟨zs, hzs⟩ : ∃ zs, zs = runes rest := ⟨_, rfl⟩
  obtain ⟨a, ha⟩ : ∃ a, a = signed c rest := ⟨_, rfl⟩
  rw [← hzs] at HK hcap HB0 ⊢
  rw [← ha] at HK ⊢
  have h1 := runes_ascii_length rest hA
  rw [← hzs] at h1
  have hzl : zs.length ≤ 100 := by omega
  clear h1
  generalize (c.toNat : Nat) = z at HK ⊢
  clear hb0 hrd hrow hp hA hc ha hzs
  go_enter Tryd.func8, Tryd.ntmps8
  go_wp2_with fail
  refine HK.out.mono ?_
  rintro e w1 ⟨p, j, hend, rfl, p0, p1, hr, hpz, hos, htp, hou, hsz, hrest⟩
  have HE := Go.Lib.hid hend
  have HR := Go.Lib.hid hr
  have HB : Hid (Below w.heap.size w w1) := ⟨hos, htp, hou, by simp at hsz; omega, fun k hk => (hrest k (by simp; omega) (by omega)).trans (HB0.out.block k hk)⟩
  have d1 := hr.c1
  obtain ⟨k, hk⟩ : ∃ k, k = min j zs.length := ⟨_, rfl⟩
  rw [← hk] at d1 HR
  have hkn : k ≤ zs.length := by omega
  have hpz2 : p < w1.heap.size := World.block_lt_of_cell? (a := ⟨p, 0, none⟩) _ p0
  obtain ⟨o, ho, ho2⟩ := fromA_some bb cap k
  have s2 : ∀ W, (Instr.slice 28 (.slice (some ⟨bb, 0, none⟩) zs.length cap) (some (.int .i64 (k : Nat))) none none).run Tryd.prog W = .ok (.slice (some ⟨bb, o, none⟩) (zs.length - k) (cap - k)) W := fun W => by
    have := run_from (P := Tryd.prog) 28 21 Tryd.underlying28 (fun w => by kernel_rfl) (some ⟨bb, 0, none⟩) zs.length cap k hkn W
    rw [ho] at this; exact this
  have HO2 := Go.Lib.hid ho2
  have HKK := Go.Lib.hid hk
  obtain ⟨tx, htx⟩ : ∃ tx : ByteArray, tx = ⟨(a.data.toList.take j).toArray⟩ := ⟨_, rfl⟩
  rw [← htx] at p0
  have HTX := Go.Lib.hid htx
  obtain ⟨lz, hlz⟩ : ∃ lz, lz = lastOf a j := ⟨_, rfl⟩
  rw [← hlz] at p1
  have HLZ := Go.Lib.hid hlz
  clear hend hr hos htp hou hsz hrest hk ho ho2 htx hlz HK hpz
  go_wp2_with fail
  go_quiet (fail)
  go_wp2_with fail
  go_returns
  refine ⟨j, o, cap - k, HE.out, by rw [← HTX.out, ← HLZ.out, ← HKK.out]; rfl, fun i hi => ?_, bdn HB.out _⟩
  rw [← HKK.out] at hi ⊢
  have := HO2.out (by omega)
  rw [this]
  have hr := HR.out.row (k + i) (by omega)
  exact ((bdn (Below.refl w1.heap.size w1) _).cell (p := ⟨bb, k + i, none⟩) HR.out.ltb).trans hr

theorem left_text (c : UInt8) (rest : ByteArray) (hA : IsAscii rest) (j : Nat) : runesBytes ((runes rest).drop (min j (runes rest).length)) = ⟨((signed c rest).data.toList.drop (j + 1)).toArray⟩ := by
  have hl := runes_ascii_length rest hA
  have h := runesBytes_sub rest hA (min j (runes rest).length) rest.size
  rw [List.take_of_length_le (by simp; omega), extract_drop] at h
  rw [h, signed_list, List.drop_succ_cons]
  by_cases e : j ≤ (runes rest).length
  · rw [Nat.min_eq_left e]
  · rw [Nat.min_eq_right (by omega), List.drop_of_length_le (by simp; omega), List.drop_of_length_le (by simp; omega)]

set_option maxHeartbeats 2000000 in
theorem impl_er (c : UInt8) (rest : ByteArray) (w : World) (hc : c.toNat < 128) (hA : IsAscii rest) (hs : rest.size ≤ 100) (hp : PC w) :
    Calls Tryd.prog 6 #[.int .i64 (c.toNat : Nat), .string rest] w (ErPost (signed c rest) w) := by
  obtain ⟨cap, W, hcv, hcap, hrow, hbW, hzW⟩ := row_made w rest (by omega)
  have HK := Go.Lib.hid (readkey_any c rest w.heap.size cap W hc hA hs hrow hzW hcap (hp.of (hbW.block 0 hp.1) hbW.size))
  have HLT := Go.Lib.hid (left_text c rest hA)
  have HBW := Go.Lib.hid hbW
  obtain ⟨zs, hzs⟩ : ∃ zs, zs = runes rest := ⟨_, rfl⟩
  obtain ⟨a, ha⟩ : ∃ a, a = signed c rest := ⟨_, rfl⟩
  rw [← hzs] at HK HLT hcv
  rw [← ha] at HK HLT ⊢
  have hz : (c.toNat : Int) < 128 := by omega
  obtain ⟨z, hz0⟩ : ∃ z, z = c.toNat := ⟨_, rfl⟩
  rw [← hz0] at HK hz ⊢
  have h32 : IntKind.i32.wrap (z : Int) = z := IntWalk.i32_in _ (by omega)
  have HLN : Hid (∀ j, ∃ q : Nat, lastOf a j = q ∧ q < 128) := fun j => by
    have hsa : IsAscii a := fun b hb => by
      rw [ha, signed_list] at hb
      rcases List.mem_cons.1 hb with e | e
      · rw [e]; exact hc
      · exact hA b e
    obtain ⟨q, h1, h2, _⟩ := last_nat a hsa j
    exact ⟨q, h1, h2⟩
  clear hrow hbW hzW hcap hp hA hs hc hz0 ha hzs
  go_enter Tryd.func6, Tryd.ntmps6
  go_wp2_with fail
  refine HK.out.mono ?_
  rintro e w1 ⟨j, o, cp, hend, rfl, hcell, hb⟩
  have HE := Go.Lib.hid hend
  have HB : Hid (Below w.heap.size w w1) := HBW.out.trans (hb.mono HBW.out.size)
  obtain ⟨q, hq, hq2⟩ := HLN.out j
  have hdl : (zs.drop (min j zs.length)).length = zs.length - min j zs.length := by simp
  have hcb : ∀ n, (convert 28 9 (.slice (some ⟨w.heap.size, o, none⟩) (zs.length - min j zs.length) cp)).run Tryd.prog (w1.drewN n) = .ok (.string (runesBytes (zs.drop (min j zs.length)))) (w1.drewN n) := fun n => by
    have := run_convert_runes (P := Tryd.prog) (w1.drewN n) 28 9 21 ⟨w.heap.size, o, none⟩ (zs.drop (min j zs.length)).length cp (zs.drop (min j zs.length)) (Nat.le_refl _) Tryd.underlying28 Tryd.underlying21 Tryd.underlying9 (fun i hi => by
      rw [add_flatE]
      have hc := hcell i (by rw [← hdl]; exact hi)
      have hl := World.block_lt_of_cell? (a := ⟨w.heap.size, o + i, none⟩) _ hc
      rw [(bdn (Below.refl w1.heap.size w1) n).cell (p := ⟨w.heap.size, o + i, none⟩) hl, hc]
      simp [nth])
    rw [List.take_of_length_le (Nat.le_refl _), hdl] at this
    exact this
  rw [HLT.out j] at hcb
  have HQ := Go.Lib.hid hq
  rw [hq]
  obtain ⟨lf, hlf⟩ : ∃ lf : ByteArray, lf = ⟨(a.data.toList.drop (j + 1)).toArray⟩ := ⟨_, rfl⟩
  rw [← hlf] at hcb
  have HLF := Go.Lib.hid hlf
  obtain ⟨tx, htx⟩ : ∃ tx : ByteArray, tx = ⟨(a.data.toList.take j).toArray⟩ := ⟨_, rfl⟩
  rw [← htx]
  have HTX := Go.Lib.hid htx
  have hcb0 := hcb 0
  clear hend hb hcell hq hlf htx hdl HLT
  generalize zs.length - min j zs.length = ln at hcb hcb0 ⊢
  go_wp2_with fail
  go_quiet (fail)
  go_wp2_with fail
  go_returns
  exact ⟨j, HE.out, by rw [← HTX.out, HQ.out, ← HLF.out]; rfl, bdn HB.out _⟩
end Go.Proofs.YtbkapklnfnopeaaDoor
