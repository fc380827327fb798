/- readline.readEscKey. -/
import Derived.Test.YtbkapklnfnopeaaDoorEscRead
import Derived.Test.YtbkapklnfnopeaaDoorShelf
namespace Go.Proofs.YtbkapklnfnopeaaDoor
open Go.RowKit
set_option linter.unusedVariables false
set_option linter.unusedSimpArgs false

/-- A sign ahead of a text. -/
def signed (c : UInt8) (rest : ByteArray) : ByteArray := ⟨#[c]⟩ ++ rest
theorem signed_list (c : UInt8) (rest : ByteArray) : (signed c rest).data.toList = c :: rest.data.toList := by unfold signed; simp
theorem signed_size (c : UInt8) (rest : ByteArray) : (signed c rest).size = rest.size + 1 := by
  show (signed c rest).data.size = _
  rw [← Array.length_toList, signed_list]; simp
theorem last_zero (c : UInt8) (rest : ByteArray) : lastOf (signed c rest) 0 = c.toNat := by unfold lastOf; rw [signed_list]; rfl
theorem last_next (c : UInt8) (rest : ByteArray) (hA : IsAscii rest) (j : Nat) : lastOf (signed c rest) (j + 1) = if j < (runes rest).length then nth (runes rest) j else 0 := by
  unfold lastOf
  rw [signed_list, runes_ascii rest hA]
  simp only [List.getElem?_cons_succ, List.length_map]
  by_cases h : j < rest.data.toList.length
  · have h2 : j < rest.data.size := by simpa using h
    rw [if_pos h, List.getElem?_eq_getElem h]; simp [nth, h2]; try (rw [Array.getElem?_eq_getElem h2]; rfl)
  · rw [if_neg h, List.getElem?_eq_none (by omega)]; rfl
theorem last_at (a : ByteArray) (j : Nat) (h : j < a.size) : lastOf a j = (a[j].toNat : Int) := lastOf_at a j h
theorem last_nat (a : ByteArray) (hA : IsAscii a) (j : Nat) : ∃ z : Nat, lastOf a j = z ∧ z < 128 ∧ (z ≠ 0 → ∃ h : j < a.size, (a[j]'h).toNat = z) := by
  by_cases h : j < a.size
  · refine ⟨a[j].toNat, lastOf_at a j h, ?_, fun _ => ⟨h, rfl⟩⟩
    have : a[j] ∈ a.data.toList := by
      have : a[j] = a.data.toList[j]'(by simpa using h) := rfl
      rw [this]; exact List.getElem_mem _
    exact hA _ this
  · exact ⟨0, lastOf_end a j (by omega), by decide, fun h => absurd rfl h⟩
theorem take_cells (a : ByteArray) (j : Nat) (h : j < a.size) : Lib.byteCells (a.data.toList.take j) ++ [.int .u8 ((a[j].toNat : Nat) : Int)] = Lib.byteCells (a.data.toList.take (j + 1)) := by
  have h' : j < a.data.toList.length := by simpa using h
  rw [List.take_succ_eq_append_getElem h']
  simp [Lib.byteCells]
  rfl

/-- What stands while the attribute is read. -/
structure St (w0 : World) (rd bb p B : Nat) (a : ByteArray) (zs : List Int) (cap j : Nat) (w : World) : Prop where
  buf : Lib.IsBuffer 51 5 B B (Lib.byteCells (a.data.toList.take j)) w
  rdr : Rd w rd bb zs cap (min j zs.length)
  p0 : w.cell? ⟨p, 0, none⟩ = some (.string ⟨#[]⟩)
  p1 : w.cell? ⟨p, 1, none⟩ = some (.int .i32 0)
  pf : ∀ j, w.frozen? ⟨p, j, none⟩ = false
  pc : PC w
  os : w.os = w0.os
  tape : w.tape = w0.tape
  output : w.output = w0.output
  size : w0.heap.size + 1 < w.heap.size
  rest : ∀ k, k < w0.heap.size → k ≠ rd → w.heap[k]? = w0.heap[k]?
  bB : B = w0.heap.size + 1
  bp : p = w0.heap.size
  brd : rd < w0.heap.size
  bbb : bb < w0.heap.size
  b0 : 0 < rd

theorem St.wrote {w0 : World} {rd bb p B : Nat} {a : ByteArray} {zs : List Int} {cap j : Nat} {w w' : World} (h : St w0 rd bb p B a zs cap j w) (hj : j < a.size) (hb : Lib.IsBuffer 51 5 B B (Lib.byteCells (a.data.toList.take j) ++ [.int .u8 ((a[j].toNat : Nat) : Int)]) w') (k : Below B w w')
    {w2 : World} (hr : Rd w2 rd bb zs cap (min (min j zs.length + 1) zs.length)) (o : OnlyB rd w' w2) : St w0 rd bb p B a zs cap (j + 1) w2 := by
  rw [take_cells a j hj] at hb
  have hz := k.size
  have e1 := h.bB
  have e2 := h.bp
  have e3 := h.brd
  have e4 := h.bbb
  have e5 := h.b0
  have hs := h.size
  have hbl : B < w.heap.size := by
    obtain ⟨_, v, lr, hh, _⟩ := h.buf
    exact (Array.getElem?_eq_some_iff.1 hh).1
  have ep : w2.heap[p]? = w.heap[p]? := (o.rest p (by omega)).trans (k.block p (by omega))
  refine ⟨?_, ?_, (World.cell?_of_block (w := w) ep).trans h.p0, (World.cell?_of_block (w := w) ep).trans h.p1, fun j => (World.frozen?_of_block (w := w) ep).trans (h.pf j), h.pc.of ((o.rest 0 (by omega)).trans (k.block 0 (by omega))) (by rw [o.size]; exact hz), o.os.trans (k.os.trans h.os), o.tape.trans (k.tape.trans h.tape), o.output.trans (k.output.trans h.output), by rw [o.size]; omega, fun q hq hn => ((o.rest q hn).trans (k.block q (by omega))).trans (h.rest q hq hn), e1, e2, e3, e4, e5⟩
  · obtain ⟨hB, v, lr, hh, hown, hne⟩ := hb
    refine ⟨hB, v, lr, (o.rest B (by omega)).trans hh, ?_, hne⟩
    refine ⟨hown.1, ?_⟩
    rcases hown.2 with h0 | ⟨g, c, cur, hv, hg, hh2, r⟩
    · exact .inl h0
    · exact .inr ⟨g, c, cur, hv, hg, (o.rest g (by omega)).trans hh2, r⟩
  · rw [show min (j + 1) zs.length = min (min j zs.length + 1) zs.length by omega]; exact hr

theorem newbuf_any (w : World) : Calls Tryd.prog 11 #[.slice none 0 0] w fun e w' => e = .returned (.pointer (some ⟨w.heap.size, 0, none⟩)) ∧ w' = w.alloc (.cells #[.slice none 0 0, .int .i64 0, .int .i8 0] 51) := by
  go_enter Tryd.func11, Tryd.ntmps11
  go_wp2_with fail
  go_returns
  exact ⟨rfl, rfl⟩

def bufLen (w : World) (B : Nat) : Nat := match w.cell? ⟨B, 0, none⟩ with | some (.slice _ n _) => n | _ => 0
theorem St.len {w0 : World} {rd bb p B : Nat} {a : ByteArray} {zs : List Int} {cap j : Nat} {w : World} (h : St w0 rd bb p B a zs cap j w) (hj : j ≤ a.size) : bufLen w B = j := by
  obtain ⟨_, v, lr, hh, hown, _⟩ := h.buf
  have hl : (Lib.byteCells (a.data.toList.take j)).length = j := by
    have : a.data.toList.length = a.size := by simp
    simp [Lib.byteCells]; omega
  have hc : w.cell? ⟨B, 0, none⟩ = some v := by simp [World.cell?, hh]
  unfold bufLen
  rw [hc]
  rw [hl] at hown
  rcases hown.2 with ⟨rfl, e⟩ | ⟨g, c, cur, rfl, _⟩
  · simp [e]
  · rfl

def KeyPost (a : ByteArray) (rd bb : Nat) (zs : List Int) (cap : Nat) (w : World) (e : Ending) (w' : World) : Prop :=
  ∃ p j, AttrEnd a j ∧ e = .returned (.pointer (some ⟨p, 0, none⟩)) ∧ w'.cell? ⟨p, 0, none⟩ = some (.string ⟨(a.data.toList.take j).toArray⟩) ∧ w'.cell? ⟨p, 1, none⟩ = some (.int .i32 (lastOf a j)) ∧ Rd w' rd bb zs cap (min j zs.length) ∧
    w.heap.size ≤ p ∧ w'.os = w.os ∧ w'.tape = w.tape ∧ w'.output = w.output ∧ w.heap.size ≤ w'.heap.size ∧ ∀ k, k < w.heap.size → k ≠ rd → w'.heap[k]? = w.heap[k]?

set_option maxRecDepth 100000 in
set_option maxHeartbeats 4000000 in
theorem key_any (c : UInt8) (rest : ByteArray) (rd bb cap : Nat) (w : World) (hc : c.toNat < 128) (hA : IsAscii rest) (hs : rest.size ≤ 100) (h : Rd w rd bb (runes rest) cap 0) (hcap : (runes rest).length ≤ cap) (hp : PC w) (h0 : 0 < rd) :
    Calls Tryd.prog 10 #[.int .i32 (c.toNat : Nat), .pointer (some ⟨rd, 0, none⟩)] w (KeyPost (signed c rest) rd bb (runes rest) cap w) := by
  have hlen := runes_ascii_length rest hA
  have hsa : IsAscii (signed c rest) := fun b hb => by
    rw [signed_list] at hb
    rcases List.mem_cons.1 hb with e | e
    · rw [e]; exact hc
    · exact hA b e
  have hasz := signed_size c rest
  have hl0 := last_zero c rest
  have HLN := Go.Lib.hid (last_next c rest hA)
  have HLZ := Go.Lib.hid (last_nat (signed c rest) hsa)
  obtain ⟨a, ha⟩ : ∃ a, a = signed c rest := ⟨_, rfl⟩
  rw [← ha] at hasz hl0 HLN HLZ ⊢
  obtain ⟨zs, hzs⟩ : ∃ zs, zs = runes rest := ⟨_, rfl⟩
  rw [← hzs] at hlen h hcap HLN ⊢
  obtain ⟨z0, hz0⟩ : ∃ z0, z0 = c.toNat := ⟨_, rfl⟩
  rw [← hz0] at hl0 ⊢
  have HL0 := Go.Lib.hid hl0
  have hzl : zs.length ≤ 1000 := by omega
  have HST : Hid (St w rd bb w.heap.size (w.heap.size + 1) a zs cap 0 ((w.alloc (.cells #[.string ⟨#[]⟩, .int .i32 0] 38)).alloc (.cells #[.slice none 0 0, .int .i64 0, .int .i8 0] 51))) := by
    have b1 : Below w.heap.size w ((w.alloc (.cells #[.string ⟨#[]⟩, .int .i32 0] 38)).alloc (.cells #[.slice none 0 0, .int .i64 0, .int .i8 0] 51)) := ((Below.refl _ _).alloc (Nat.le_refl _) _).alloc (by simp) _
    refine ⟨⟨Nat.le_refl _, .slice none 0 0, 0, ?_, ⟨by simp [Lib.byteCells], .inl ⟨rfl, by simp [Lib.byteCells]⟩⟩, by simp [Value.ownBlock]⟩, ?_, by simp [go_sem], by simp [go_sem], fun j => by simp [go_sem], hp.of (b1.block 0 hp.1) b1.size, rfl, rfl, rfl, by simp, fun k hk _ => b1.block k hk, rfl, rfl, h.lt, h.ltb, h0⟩
    · have := heap_alloc_new (w.alloc (.cells #[.string ⟨#[]⟩, .int .i32 0] 38)) (.cells #[.slice none 0 0, .int .i64 0, .int .i8 0] 51)
      simpa using this
    · rw [Nat.zero_min]; exact h.of (b1.block rd h.lt) (b1.block bb h.ltb) b1.size
  have HCAP := Go.Lib.hid hcap
  clear h hp hl0 ha hzs hcap hsa hA hs hz0 hc
  go_enter Tryd.func10, Tryd.ntmps10
  go_wp2_with fail
  refine (newbuf_any _).mono ?_
  rintro e w1 ⟨rfl, rfl⟩
  go_wp2_with fail
  go_loopw [0] (fun r wr => ∃ j : Nat, j ≤ a.size ∧ r = .int .i32 (lastOf a j) ∧ Hid (∀ (i : Nat) (h : i < a.size), i < j → IsAttr (a[i]'h).toNat) ∧ Hid (St w rd bb w.heap.size (w.heap.size + 1) a zs cap j wr)) (fun _ wr => a.size + 1 - bufLen wr (w.heap.size + 1))
  case atStart => exact ⟨0, Nat.zero_le _, by rw [HL0.out], fun i _ hi => by omega, HST.out⟩
  case round =>
    obtain ⟨j, hj, rfl, HA, HS⟩ := hrel
    obtain ⟨z, hz, hz128, hzj⟩ := HLZ.out j
    have HZ := Go.Lib.hid hz
    rw [hz]
    clear hz
    have HNM := Go.Lib.hid (isnum_any z hz128 wr HS.out.pc)
    by_cases hat : IsAttr z
    · have HAT := Go.Lib.hid hat
      obtain ⟨hja, hje⟩ := hzj (by rcases hat with e | e <;> omega)
      have HJA := Go.Lib.hid hja
      have HJE := Go.Lib.hid hje
      have HJN : Hid (j ≤ zs.length) := by show j ≤ zs.length; omega
      have HMJ : Hid (min j zs.length = j) := Nat.min_eq_left HJN.out
      have hlc : (Lib.byteCells (a.data.toList.take j)).length ≤ 1000 := by simp [Lib.byteCells]; omega
      have HWR := Go.Lib.hid (Tryd.Buffer_WriteRune_ascii (w.heap.size + 1) (w.heap.size + 1) _ (z : Int) (by omega) (by omega) wr HS.out.buf (by have := HS.out.size; omega) (fun v hv => by obtain ⟨x, _, rfl⟩ := List.mem_map.1 hv; rfl) (by omega))
      clear hje hzj hlc
      by_cases h59 : z = 59
      · have q1 : ((z : Int) == 59) = true := by simp; omega
        clear h59 hat
        go_wp2_with fail
        refine HWR.out.mono ?_
        rintro e w2 ⟨rfl, hb2, k2, -⟩
        have HB2 := Go.Lib.hid hb2
        have K2 := Go.Lib.hid k2
        have hr2 : Rd w2 rd bb zs cap j := by
          have := HS.out.rdr
          rw [HMJ.out] at this
          have e1 := HS.out.brd
          have e2 := HS.out.bbb
          exact this.of (k2.block rd (by omega)) (k2.block bb (by omega)) k2.size
        have HR2 := Go.Lib.hid hr2
        clear hb2 k2 hr2
        go_wp2_with fail
        refine (read_any rd bb zs cap j w2 HR2.out hzl HJN.out HCAP.out).mono ?_
        rintro e w3 ⟨m, rfl, hr3, o3⟩
        rw [← HLN.out j]
        have HS3 : Hid (St w rd bb w.heap.size (w.heap.size + 1) a zs cap (j + 1) w3) := HS.out.wrote HJA.out (by rw [HJE.out]; exact HB2.out) K2.out (by rw [HMJ.out]; exact hr3) o3
        have HA3 : Hid (∀ (i : Nat) (h : i < a.size), i < j + 1 → IsAttr (a[i]'h).toNat) := fun i hi hij => by
          by_cases e : i < j
          · exact HA.out i hi e
          · obtain rfl : i = j := by omega
            rw [HJE.out]; exact HAT.out
        clear hr3 o3
        obtain ⟨v3, hv3⟩ : ∃ v, v = lastOf a (j + 1) := ⟨_, rfl⟩
        rw [← hv3]
        have HV3 := Go.Lib.hid hv3
        clear hv3
        go_wp2_with fail
        go_roundw
        case rel => exact ⟨j + 1, HJA.out, by rw [HV3.out], HA3.out, HS3.out⟩
        case measure =>
          have h1 := HS.out.len (by omega)
          have h2 := HS3.out.len HJA.out
          have h3 := HJA.out
          simp only [h1, h2]
          omega
      · have q1 : ((z : Int) == 59) = false := by rw [beq_eq_false_iff_ne]; omega
        have hn : isNum z = true := by unfold isNum; rcases hat with e | e; exact absurd e h59; simpa using e
        rw [hn] at HNM
        clear h59 hat hn
        go_wp2_with fail
        refine HNM.out.mono ?_
        rintro e w1 ⟨rfl, rfl⟩
        go_wp2_with fail
        refine HWR.out.mono ?_
        rintro e w2 ⟨rfl, hb2, k2, -⟩
        have HB2 := Go.Lib.hid hb2
        have K2 := Go.Lib.hid k2
        have hr2 : Rd w2 rd bb zs cap j := by
          have := HS.out.rdr
          rw [HMJ.out] at this
          have e1 := HS.out.brd
          have e2 := HS.out.bbb
          exact this.of (k2.block rd (by omega)) (k2.block bb (by omega)) k2.size
        have HR2 := Go.Lib.hid hr2
        clear hb2 k2 hr2
        go_wp2_with fail
        refine (read_any rd bb zs cap j w2 HR2.out hzl HJN.out HCAP.out).mono ?_
        rintro e w3 ⟨m, rfl, hr3, o3⟩
        rw [← HLN.out j]
        have HS3 : Hid (St w rd bb w.heap.size (w.heap.size + 1) a zs cap (j + 1) w3) := HS.out.wrote HJA.out (by rw [HJE.out]; exact HB2.out) K2.out (by rw [HMJ.out]; exact hr3) o3
        have HA3 : Hid (∀ (i : Nat) (h : i < a.size), i < j + 1 → IsAttr (a[i]'h).toNat) := fun i hi hij => by
          by_cases e : i < j
          · exact HA.out i hi e
          · obtain rfl : i = j := by omega
            rw [HJE.out]; exact HAT.out
        clear hr3 o3
        obtain ⟨v3, hv3⟩ : ∃ v, v = lastOf a (j + 1) := ⟨_, rfl⟩
        rw [← hv3]
        have HV3 := Go.Lib.hid hv3
        clear hv3
        go_wp2_with fail
        go_roundw
        case rel => exact ⟨j + 1, HJA.out, by rw [HV3.out], HA3.out, HS3.out⟩
        case measure =>
          have h1 := HS.out.len (by omega)
          have h2 := HS3.out.len HJA.out
          have h3 := HJA.out
          simp only [h1, h2]
          omega
    · have q1 : ((z : Int) == 59) = false := by rw [beq_eq_false_iff_ne]; intro e; exact hat (.inl (by omega))
      have hn : isNum z = false := by unfold isNum; rw [decide_eq_false_iff_not]; intro e; exact hat (.inr e)
      rw [hn] at HNM
      have HEND : Hid (AttrEnd a j) := by
        refine ⟨hj, HA.out, ?_⟩
        by_cases e : j = a.size
        · exact .inl e
        · have hlt : j < a.size := by omega
          refine .inr ⟨hlt, ?_⟩
          have := lastOf_at a j hlt
          rw [HZ.out] at this
          have : (a[j]'hlt).toNat = z := by omega
          rw [this]; exact hat
      clear hat hn hzj
      go_wp2_with fail
      refine HNM.out.mono ?_
      rintro e w2 ⟨rfl, rfl⟩
      have p0 := HS.out.p0
      have p1 := HS.out.p1
      have pf0 := HS.out.pf 0
      have pf1 := HS.out.pf 1
      have hsz := HS.out.size
      have HBS : Hid (Lib.IsBuffer 51 5 (w.heap.size + 1) (w.heap.size + 1) (Lib.byteCells (a.data.toList.take j)) (wr.setCell ⟨w.heap.size, 1, none⟩ (.int .i32 (z : Nat)))) := by
        obtain ⟨hB, v, lr, hh, hown, hne⟩ := HS.out.buf
        exact ⟨hB, v, lr, (Below.heap_setCell _ _ _ _ (show w.heap.size + 1 ≠ w.heap.size by omega)).trans hh, ownsRow_setCell_below (a := ⟨w.heap.size, 1, none⟩) hown (by show w.heap.size < _; omega) _, hne⟩
      go_wp2_with fail
      refine (Tryd.Buffer_String _ _ _ _ HBS.out).mono ?_
      rintro e w3 ⟨rfl, nq, rfl⟩
      have hqq : ((wr.setCell ⟨w.heap.size, 1, none⟩ (.int .i32 (z : Nat))).drewN nq).heap = (wr.setCell ⟨w.heap.size, 1, none⟩ (.int .i32 (z : Nat))).heap := by simp [World.drewN]
      have hcell : ∀ o, ((wr.setCell ⟨w.heap.size, 1, none⟩ (.int .i32 (z : Nat))).drewN nq).cell? ⟨w.heap.size, o, none⟩ = (wr.setCell ⟨w.heap.size, 1, none⟩ (.int .i32 (z : Nat))).cell? ⟨w.heap.size, o, none⟩ := fun o => World.cell?_of_block (w := (wr.setCell ⟨w.heap.size, 1, none⟩ (.int .i32 (z : Nat)))) (by rw [hqq])
      have hfro : ((wr.setCell ⟨w.heap.size, 1, none⟩ (.int .i32 (z : Nat))).drewN nq).frozen? ⟨w.heap.size, 0, none⟩ = (wr.setCell ⟨w.heap.size, 1, none⟩ (.int .i32 (z : Nat))).frozen? ⟨w.heap.size, 0, none⟩ := World.frozen?_of_block (w := (wr.setCell ⟨w.heap.size, 1, none⟩ (.int .i32 (z : Nat)))) (by rw [hqq])
      have q0 : ((wr.setCell ⟨w.heap.size, 1, none⟩ (.int .i32 (z : Nat))).drewN nq).cell? ⟨w.heap.size, 0, none⟩ = some (.string ⟨#[]⟩) := by
        rw [hcell, World.cell?_setCell_other _ _ _ _ (by simp)]; exact p0
      have q1 : ((wr.setCell ⟨w.heap.size, 1, none⟩ (.int .i32 (z : Nat))).drewN nq).cell? ⟨w.heap.size, 1, none⟩ = some (.int .i32 (z : Nat)) := by
        rw [hcell, World.cell?_setCell_same' _ _ _ (by rw [p1]; rfl)]
      have qf : ((wr.setCell ⟨w.heap.size, 1, none⟩ (.int .i32 (z : Nat))).drewN nq).frozen? ⟨w.heap.size, 0, none⟩ = false := by
        rw [hfro, World.frozen?_setCell]; exact pf0
      have hsz2 : ((wr.setCell ⟨w.heap.size, 1, none⟩ (.int .i32 (z : Nat))).drewN nq).heap.size = wr.heap.size := by rw [hqq]; simp [World.setCell]
      have hzq : w.heap.size + 1 < ((wr.setCell ⟨w.heap.size, 1, none⟩ (.int .i32 (z : Nat))).drewN nq).heap.size := by rw [hsz2]; exact hsz
      have ho : ((wr.setCell ⟨w.heap.size, 1, none⟩ (.int .i32 (z : Nat))).drewN nq).os = w.os ∧ ((wr.setCell ⟨w.heap.size, 1, none⟩ (.int .i32 (z : Nat))).drewN nq).tape = w.tape ∧ ((wr.setCell ⟨w.heap.size, 1, none⟩ (.int .i32 (z : Nat))).drewN nq).output = w.output := ⟨by simpa [World.drewN, World.setCell] using HS.out.os, by simpa [World.drewN, World.setCell] using HS.out.tape, by simpa [World.drewN, World.setCell] using HS.out.output⟩
      have hrest : ∀ k, k ≠ w.heap.size → ((wr.setCell ⟨w.heap.size, 1, none⟩ (.int .i32 (z : Nat))).drewN nq).heap[k]? = wr.heap[k]? := fun k hk => by rw [hqq]; exact Below.heap_setCell _ _ _ _ (show k ≠ w.heap.size from hk)
      have HSZ := Go.Lib.hid hsz2
      have HO := Go.Lib.hid ho
      have HRE := Go.Lib.hid hrest
      clear hqq ho hrest p0 p1 pf0 pf1 hcell hfro hsz2
      generalize (wr.setCell ⟨w.heap.size, 1, none⟩ (.int .i32 (z : Nat))).drewN nq = wy at q0 q1 qf hzq HO HRE HSZ ⊢
      have s0 : ∀ u, (wy.setCell ⟨w.heap.size, 0, none⟩ u).cell? ⟨w.heap.size, 0, none⟩ = some u := fun u => World.cell?_setCell_same' _ _ _ (by rw [q0]; rfl)
      have s1 : ∀ u, (wy.setCell ⟨w.heap.size, 0, none⟩ u).cell? ⟨w.heap.size, 1, none⟩ = some (.int .i32 (z : Nat)) := fun u => (World.cell?_setCell_other _ _ _ _ (by simp)).trans q1
      have S0 := Go.Lib.hid s0
      have S1 := Go.Lib.hid s1
      clear s0 s1
      go_wp2_with fail
      go_returns
      have e1 := HS.out.brd
      have e2 := HS.out.bbb
      refine ⟨w.heap.size, j, HEND.out, rfl, S0.out _, by rw [HZ.out]; exact S1.out _, HS.out.rdr.of ?_ ?_ ?_, Nat.le_refl _, HO.out.1, HO.out.2.1, HO.out.2.2, ?_, fun k hk hn => ?_⟩
      · exact (Below.heap_setCell _ _ _ _ (show rd ≠ w.heap.size by omega)).trans (HRE.out rd (by omega))
      · exact (Below.heap_setCell _ _ _ _ (show bb ≠ w.heap.size by omega)).trans (HRE.out bb (by omega))
      · simp [World.setCell]; have := HSZ.out; omega
      · simp [World.setCell]; omega
      · exact ((Below.heap_setCell _ _ _ _ (show k ≠ w.heap.size by omega)).trans (HRE.out k (by omega))).trans (HS.out.rest k hk hn)
end Go.Proofs.YtbkapklnfnopeaaDoor
