/- spec.Stripped; laws.FnWidth. -/
import Derived.Test.YtakmcnincmgadaaWidth1
import Derived.Test.YtakmcnincmgadaaHeldTail
import Derived.Deep.AppendLies
import Derived.Laws.BytesArg
namespace Go.Proofs.Ytakmcnincmgadaa
open Go.RowKit
set_option linter.unusedVariables false
set_option linter.unusedSimpArgs false

def cells (o : List UInt8) : List Value := o.map fun c => .int .u8 (c.toNat : Int)
def nats (o : List UInt8) : List Nat := o.map (·.toNat)
def tot (o : List UInt8) : Nat := (nats o |>.map room).sum
theorem tot_more (o : List UInt8) (c : UInt8) : tot (o ++ [c]) = tot o + room c.toNat := by simp [tot, nats]
theorem cells_more (o : List UInt8) (c : UInt8) : cells (o ++ [c]) = cells o ++ [.int .u8 (c.toNat : Int)] := by simp [cells]

theorem tot_signs : ∀ o : List UInt8, (∀ c ∈ nats o, c = 10 ∨ (32 ≤ c ∧ c ≤ 126)) → tot o = signs (nats o)
  | [], _ => rfl
  | c :: t, h => by
    have ih := tot_signs t fun d hd => h d (by simp [nats] at hd ⊢; exact .inr hd)
    have hc := h c.toNat (by simp [nats])
    have e : tot (c :: t) = room c.toNat + tot t := by simp [tot, nats]
    have e2 : signs (nats (c :: t)) = (if c.toNat = 10 then 0 else 1) + signs (nats t) := by
      unfold signs nats
      rw [List.map_cons, List.filter_cons]
      by_cases h : c.toNat = 10 <;> simp [h] <;> omega
    rw [e, e2, ih]
    unfold room
    rcases hc with hc | hc
    · rw [if_pos (by omega), if_pos hc]
    · rw [if_neg (by omega), if_neg (by omega)]

theorem conv_cells (w : World) (base : Nat) (v : Value) (o : List UInt8) (h : w.ownsRow base 5 1 v o.length (cells o)) :
    (convert 26 9 v).run Try.prog w = .ok (.string ⟨o.toArray⟩) w := by
  rcases h.2 with ⟨rfl, h0⟩ | ⟨g, cap, cur, rfl, hg, hh, hn, hc, hcs, htk⟩
  · obtain rfl : o = [] := List.length_eq_zero_iff.1 h0
    kernel_rfl
  · refine run_convert_bytes_back (P := Try.prog) w 26 9 5 ⟨g, 0, none⟩ cap o Try.underlying26 Try.underlying5 Try.underlying9 (fun j hj => ?_)
    have e : (⟨g, 0, none⟩ : Addr).add j = ⟨g, j, none⟩ := by
      unfold Addr.add
      by_cases e : j = 0
      · rw [if_pos e, e]
      · rw [if_neg e, Nat.zero_add]
    rw [e, World.cell?, hh]
    have := congrArg (·[j]?) htk
    rw [List.getElem?_take_of_lt (by omega)] at this
    simpa [cells, List.getElem?_eq_getElem hj] using this

def Inv (s : ByteArray) (w : World) (j : Nat) (o : List UInt8) (v : Value) (wr : World) : Prop :=
  wr.ownsRow w.heap.size 5 1 v o.length (cells o) ∧ Below w.heap.size w wr ∧ o.length ≤ j ∧ st ((bs s).take j) = (tot o, false) ∧ ∀ c ∈ (bs s).take j, c < 128 ∨ c ∈ nats o

theorem news_one (w : World) (v : Value) (t : TypeId) : ∀ (j : Nat) (u : Value), [v][j]? = some u → (w.alloc (.cells #[v] t)).cell? ((⟨w.heap.size, 0, none⟩ : Addr).add j) = some u := by
  intro j u h
  match j, h with
  | 0, h => simp at h; subst h; simp [Addr.add]
  | j + 1, h => simp at h

def StripPost (s : ByteArray) (w : World) (e : Ending) (w' : World) : Prop :=
  ∃ (o : ByteArray) (b : Bool), e = .returned (.tuple #[.string o, .bool b]) ∧ (b = true → IsAscii s ∧ (st (bs s)).1 = signs (bs o) ∧ o.size ≤ s.size) ∧ Below w.heap.size w w'

theorem strip_end {s : ByteArray} {o : List UInt8} {n : Nat} (hn : s.size ≤ n) (hst : st ((bs s).take n) = (tot o, false)) (hm : ∀ c ∈ (bs s).take n, c < 128 ∨ c ∈ nats o) (hl : o.length ≤ s.size)
    (hp : ∀ i, i < (⟨o.toArray⟩ : ByteArray).size → ∀ c, (bs ⟨o.toArray⟩)[i]? = some c → c = 10 ∨ (32 ≤ c ∧ c ≤ 126)) : IsAscii s ∧ (st (bs s)).1 = signs (bs ⟨o.toArray⟩) ∧ (⟨o.toArray⟩ : ByteArray).size ≤ s.size := by
  have hb : bs ⟨o.toArray⟩ = nats o := by simp [bs, nats]
  have hsz : (⟨o.toArray⟩ : ByteArray).size = o.length := by simp [ByteArray.size]
  have ho : ∀ c ∈ nats o, c = 10 ∨ (32 ≤ c ∧ c ≤ 126) := fun c hc => by
    obtain ⟨i, hi, rfl⟩ := List.getElem_of_mem hc
    exact hp i (by rw [hsz]; simpa [nats] using hi) _ (by rw [hb]; exact List.getElem?_eq_getElem hi)
  have ht : (bs s).take n = bs s := List.take_of_length_le (by rw [bs_length]; exact hn)
  rw [ht] at hst hm
  refine ⟨fun c hc => ?_, by rw [hst, hb]; exact tot_signs o ho, by rw [hsz]; exact hl⟩
  rcases hm c.toNat (by simp only [bs]; exact List.mem_map_of_mem hc) with h | h
  · exact h
  · rcases ho _ h with h | h <;> omega

set_option maxRecDepth 100000 in
set_option maxHeartbeats 4000000 in
theorem stripped_any (s : ByteArray) (w : World) (hs : s.size ≤ 2000) : Calls Try.prog 7 #[.string s] w (StripPost s w) := by
  obtain ⟨ib, hib, hz0, hz1, hz2⟩ := info_parts (show (Try.prog.info? 5).map (fun i => (i.zero, i.size, i.bytes)) = some (some (.int .u8 0), 1, 1) by kernel_rfl)
  go_enter Try.func7, Try.ntmps7
  go_wp2_with fail
  go_loopw [4, 5] (fun v' i wr => ∃ (j : Nat) (o : List UInt8) (v : Value), v = v' ∧ j ≤ s.size ∧ i = .int .i64 j ∧ Hid (Inv s w j o v wr)) (fun _ i _ => s.size - (intOf i).toNat)
  case atStart => exact ⟨0, [], _, rfl, Nat.zero_le _, rfl, World.ownsRow_nil _ _ _ _, Below.refl _ _, Nat.le_refl _, rfl, fun c hc => by simp at hc⟩
  case round =>
    obtain ⟨j, o, v, rfl, hj, rfl, HI⟩ := hrel
    by_cases hlt : j < s.size
    · have hj0 : (0 : Int) ≤ j := by omega
      have hj1 : (j : Int) < s.size := by omega
      obtain ⟨hown, hbel, hol, hst, hmem⟩ := HI.out
      by_cases h27 : (s[j]'hlt).toNat = 27
      · have e27 : (((s[j]'hlt).toNat : Int) != 27) = false := by simp [h27]
        have ST1 : Hid (st ((bs s).take (j + 1)) = (tot o, true)) := by
          show _ = _
          rw [bs_take s j hlt, st_more, hst]; unfold stp; rw [if_pos h27]
        have M1 : Hid (∀ c ∈ (bs s).take (j + 1), c < 128 ∨ c ∈ nats o) := fun c hc => by
          rw [bs_take s j hlt] at hc
          rcases List.mem_append.1 hc with h | h
          · exact hmem c h
          · have : c = (s[j]'hlt).toNat := by simpa using h
            exact .inl (by omega)
        have HB := Go.Lib.hid hbel
        have HOW := Go.Lib.hid hown
        have HOL := Go.Lib.hid hol
        clear hown hbel hol hst hmem h27 HI
        by_cases hk1 : j + 1 = s.size
        · have ek : ((j : Int) + 1 == (s.size : Int)) = true := by simp; omega
          have ek2 : (((j + 1 : Nat) : Int) == (s.size : Int)) = true := by simp; omega
          clear hk1
          go_wp2_with fail
          go_returns
          exact ⟨⟨#[]⟩, false, rfl, (fun h => by cases h), HB.out⟩
        · obtain ⟨k, hk⟩ : ∃ k, k = j + 1 := ⟨_, rfl⟩
          have hkl : k < s.size := by omega
          have hw : IntKind.i64.wrap ((j : Int) + 1) = (k : Int) := by rw [hk, IntWalk.i64_in _ (by omega)]; omega
          rw [← hk] at ST1 M1
          have ek : ((k : Int) == (s.size : Int)) = false := by simp; omega
          have hk0 : (0 : Int) ≤ k := by omega
          have hk1' : (k : Int) < s.size := by omega
          have HJK : Hid (j < k) := by show j < k; omega
          clear hk hk1
          by_cases h91 : (s[k]'hkl).toNat = 91
          · have e91 : (((s[k]'hkl).toNat : Int) != 91) = false := by simp [h91]
            have ST2 : Hid (st ((bs s).take (k + 1)) = (tot o, true)) := by
              show _ = _
              rw [bs_take s k hkl, st_more, ST1.out, h91]; rfl
            have M2 : Hid (∀ c ∈ (bs s).take (k + 1), c < 128 ∨ c ∈ nats o) := fun c hc => by
              rw [bs_take s k hkl] at hc
              rcases List.mem_append.1 hc with h | h
              · exact M1.out c h
              · have : c = (s[k]'hkl).toNat := by simpa using h
                exact .inl (by omega)
            obtain ⟨k2, hk2⟩ : ∃ k2, k2 = k + 1 := ⟨_, rfl⟩
            have hw2 : IntKind.i64.wrap ((k : Int) + 1) = (k2 : Int) := by rw [hk2, IntWalk.i64_in _ (by omega)]; omega
            rw [← hk2] at ST2 M2
            have hk2l : k2 ≤ s.size := by omega
            have HJ2 : Hid (j < k2) := by have := HJK.out; show j < k2; omega
            clear hk2 h91 ST1 M1
            go_wp2_with fail
            go_loop [6] (fun q => ∃ i : Nat, j < i ∧ i ≤ s.size ∧ q = .int .i64 i ∧ Hid (st ((bs s).take i) = (tot o, true) ∧ ∀ c ∈ (bs s).take i, c < 128 ∨ c ∈ nats o)) (fun q => s.size - (intOf q).toNat)
            case atStart => exact ⟨k2, HJ2.out, hk2l, rfl, ST2.out, M2.out⟩
            case round =>
              obtain ⟨i, hji, hi, rfl, HS⟩ := hrel
              by_cases hin : i < s.size
              · have i0 : (0 : Int) ≤ i := by omega
                have i1 : (i : Int) < s.size := by omega
                have ei : ((i : Int) == (s.size : Int)) = false := by simp; omega
                have HD : Hid (ends (s[i]'hin).toNat = false → (s[i]'hin).toNat ≠ 27 → (s[i]'hin).toNat < 128 → (st ((bs s).take (i + 1)) = (tot o, true) ∧ ∀ c ∈ (bs s).take (i + 1), c < 128 ∨ c ∈ nats o)) := fun h1 h2 h3 => by
                  refine ⟨?_, fun c hc => ?_⟩
                  · rw [bs_take s i hin, st_more, HS.out.1]; unfold stp; rw [if_neg h2]; simp [h1]
                  · rw [bs_take s i hin] at hc
                    rcases List.mem_append.1 hc with h | h
                    · exact HS.out.2 c h
                    · have : c = (s[i]'hin).toNat := by simpa using h
                      exact .inl (by omega)
                by_cases d1 : (48 : Int) ≤ ((s[i]'hin).toNat : Int)
                · by_cases d2 : ((s[i]'hin).toNat : Int) ≤ 57
                  · have HS2 : Hid (st ((bs s).take (i + 1)) = (tot o, true) ∧ ∀ c ∈ (bs s).take (i + 1), c < 128 ∨ c ∈ nats o) := HD.out (by simp [ends]; omega) (by omega) (by omega)
                    clear HD
                    go_wp2_with fail
                    go_round
                    case rel => exact ⟨i + 1, by omega, by omega, by go_num, HS2.out⟩
                    case measure => simp [intOf]; omega
                  · by_cases d3 : (s[i]'hin).toNat = 59
                    · have e3 : (((s[i]'hin).toNat : Int) == 59) = true := by simp [d3]
                      have HS2 : Hid (st ((bs s).take (i + 1)) = (tot o, true) ∧ ∀ c ∈ (bs s).take (i + 1), c < 128 ∨ c ∈ nats o) := HD.out (by simp [ends]; omega) (by omega) (by omega)
                      clear HD d3
                      go_wp2_with fail
                      go_round
                      case rel => exact ⟨i + 1, by omega, by omega, by go_num, HS2.out⟩
                      case measure => simp [intOf]; omega
                    · have e3 : (((s[i]'hin).toNat : Int) == 59) = false := by simp; omega
                      clear d3
                      by_cases h109 : (s[i]'hin).toNat = 109
                      · have e109 : (((s[i]'hin).toNat : Int) != 109) = false := by simp [h109]
                        have HI3 : Hid (Inv s w (i + 1) o v wr) := ⟨HOW.out, HB.out, by have := HOL.out; omega, by rw [bs_take s i hin, st_more, HS.out.1, h109]; rfl, fun c hc => by
                          rw [bs_take s i hin] at hc
                          rcases List.mem_append.1 hc with h | h
                          · exact HS.out.2 c h
                          · have : c = (s[i]'hin).toNat := by simpa using h
                            exact .inl (by omega)⟩
                        clear h109 HD
                        go_wp2_with fail
                        go_roundw
                        case rel => exact ⟨i + 1, o, v, rfl, by omega, by go_num, HI3.out⟩
                        case measure => simp [intOf]; omega
                      · have e109 : (((s[i]'hin).toNat : Int) != 109) = true := by simp; omega
                        clear h109 HD
                        go_wp2_with fail
                        go_returns
                        exact ⟨⟨#[]⟩, false, rfl, (fun h => by cases h), HB.out⟩
                · have e3 : (((s[i]'hin).toNat : Int) == 59) = false := by simp; omega
                  by_cases h109 : (s[i]'hin).toNat = 109
                  · have e109 : (((s[i]'hin).toNat : Int) != 109) = false := by simp [h109]
                    have HI3 : Hid (Inv s w (i + 1) o v wr) := ⟨HOW.out, HB.out, by have := HOL.out; omega, by rw [bs_take s i hin, st_more, HS.out.1, h109]; rfl, fun c hc => by
                      rw [bs_take s i hin] at hc
                      rcases List.mem_append.1 hc with h | h
                      · exact HS.out.2 c h
                      · have : c = (s[i]'hin).toNat := by simpa using h
                        exact .inl (by omega)⟩
                    clear h109 HD
                    go_wp2_with fail
                    go_roundw
                    case rel => exact ⟨i + 1, o, v, rfl, by omega, by go_num, HI3.out⟩
                    case measure => simp [intOf]; omega
                  · have e109 : (((s[i]'hin).toNat : Int) != 109) = true := by simp; omega
                    clear h109 HD
                    go_wp2_with fail
                    go_returns
                    exact ⟨⟨#[]⟩, false, rfl, (fun h => by cases h), HB.out⟩
              · have ei : ((i : Int) == (s.size : Int)) = true := by simp; omega
                have i1 : ¬ (i : Int) < s.size := by omega
                have hii : i = s.size := by omega
                clear hii
                go_wp2_with fail
                go_returns
                exact ⟨⟨#[]⟩, false, rfl, (fun h => by cases h), HB.out⟩
          · have e91 : (((s[k]'hkl).toNat : Int) != 91) = true := by simp; omega
            clear h91
            go_wp2_with fail
            go_returns
            exact ⟨⟨#[]⟩, false, rfl, (fun h => by cases h), HB.out⟩
      · have e27 : (((s[j]'hlt).toNat : Int) != 27) = true := by simp; omega
        obtain ⟨c, hc⟩ : ∃ c, c = s[j]'hlt := ⟨_, rfl⟩
        have HN : Hid (st ((bs s).take (j + 1)) = (tot (o ++ [c]), false) ∧ (∀ d ∈ (bs s).take (j + 1), d < 128 ∨ d ∈ nats (o ++ [c])) ∧ (o ++ [c]).length ≤ j + 1) := by
          refine ⟨?_, fun d hd => ?_, by simp; omega⟩
          · rw [bs_take s j hlt, st_more, hst, tot_more, hc]; unfold stp; rw [if_neg h27]; rfl
          · rw [bs_take s j hlt] at hd
            rcases List.mem_append.1 hd with h | h
            · rcases hmem d h with h | h
              · exact .inl h
              · exact .inr (by simp [nats] at h ⊢; exact .inl h)
            · have : d = (s[j]'hlt).toNat := by simpa using h
              exact .inr (by simp [nats, hc, this])
        have HO5 := Go.Lib.hid (hown.alloc (.cells #[.int .u8 (c.toNat : Int)] 5))
        have HN5 := Go.Lib.hid (news_one wr (.int .u8 (c.toNat : Int)) 5)
        have HB := Go.Lib.hid hbel
        have hlo := hown.lt
        have hwz := hbel.size
        have hol2 : o.length ≤ 2000 := by omega
        rw [← hc] at e27
        have HC := Go.Lib.hid hc
        have hidx : (s[j]'hlt) = c := hc.symm
        obtain ⟨L, hL⟩ : ∃ L, L = o.length := ⟨_, rfl⟩
        clear hown hbel hol hst hmem h27 HI hc
        go_wp2_with (at_builtin; refine wpList_append_lies _ rfl _ _ 26 rfl w.heap.size 5 ib _ 1 1 Try.underlying26 hib hz0 hz1 hz2 rfl (by decide) v o.length _ rfl HO5.out ⟨wr.heap.size, 0, none⟩ 1 1 [.int .u8 (c.toNat : Int)] rfl rfl HN5.out (by simp [Value.oneCell']) (by decide) ?c1 ?c2 ?c3 _ rfl ?_)
        case c1 => unfold maxLen; omega
        case c2 => omega
        case c3 => simp; omega
        intro g2 cap2 w3 hown3 hgrow3 _ hg2
        have HI2 : Hid (Inv s w (j + 1) (o ++ [c]) (.slice (some ⟨g2, 0, none⟩) (o.length + 1) cap2) w3) := by
          refine ⟨?_, ?_, HN.out.2.2, HN.out.1, HN.out.2.1⟩
          · rw [cells_more, List.length_append]; exact hown3
          · exact (HB.out.alloc (by omega) _).grown hgrow3 (by simp; omega) (fun k hk => (hlo k hk).1)
        clear hown3 hgrow3 hlo hL
        go_wp2_with fail
        go_roundw
        case rel => exact ⟨j + 1, o ++ [c], _, rfl, by omega, by go_num, HI2.out⟩
        case measure => simp [intOf]; omega
    · obtain ⟨hown, hbel, hol, hst, hmem⟩ := HI.out
      have hj1 : ¬ (j : Int) < s.size := by omega
      have hcv := conv_cells wr _ v o hown
      have hcv2 : (convert 26 9 v).run Try.prog wr.drew = .ok (.string ⟨o.toArray⟩) wr.drew := conv_cells wr.drew _ v o hown
      have HP : Hid (∀ W, Calls Try.prog 9 #[.string ⟨o.toArray⟩] W (PlainPost ⟨o.toArray⟩ W)) := fun W => plain_any _ W (by simp [ByteArray.size]; omega)
      have HE : Hid ((∀ i, i < (⟨o.toArray⟩ : ByteArray).size → ∀ c, (bs ⟨o.toArray⟩)[i]? = some c → c = 10 ∨ (32 ≤ c ∧ c ≤ 126)) → IsAscii s ∧ (st (bs s)).1 = signs (bs ⟨o.toArray⟩) ∧ (⟨o.toArray⟩ : ByteArray).size ≤ s.size) := fun h => strip_end (by omega) hst hmem (by omega) h
      have HB := Go.Lib.hid hbel
      generalize (⟨o.toArray⟩ : ByteArray) = O at hcv hcv2 HP HE
      clear hown hbel hol hst hmem HI hcv
      go_wp2_with fail
      refine region_held_tail 6 (S := (fun w' => (convert 26 9 v).run Try.prog w' = .ok (.string O) w')) (by kernel_rfl) (by kernel_rfl) ?_ (fun hHeld => ?_)
      · (try dsimp only); first | done | (exact hcv2)
      refine HeldT.take (i := 0) (v := ?_) (by simp only [List.getElem?_toArray, List.getElem?_cons_succ, List.getElem?_cons_zero]; rfl) (by kernel_rfl) (by kernel_rfl) (by kernel_rfl) (by kernel_rfl) (by exact fun _ _ _ h => h) ?_ (by assumption) ?_
      rotate_left
      · refine Or.inl ⟨by rfl, ?_⟩
        (intro w hSw; (try dsimp only at hSw); go_simp; try with_reducible rfl)
      try simp only [Act.put, List.setIfInBounds_toArray, List.set_cons_zero, List.set_cons_succ]
      refine HeldT.take (i := 1) (v := ?_) (by simp only [List.getElem?_toArray, List.getElem?_cons_succ, List.getElem?_cons_zero]; rfl) (by kernel_rfl) (by kernel_rfl) (by kernel_rfl) (by kernel_rfl) (by exact fun _ _ _ h => h) ?_ (by assumption) ?_
      rotate_left
      · refine Or.inl ⟨by rfl, ?_⟩
        (intro w hSw; (try dsimp only at hSw); go_simp; try with_reducible rfl)
      try simp only [Act.put, List.setIfInBounds_toArray, List.set_cons_zero, List.set_cons_succ]
      refine HeldT.take (i := 2) (v := ?_) (by simp only [List.getElem?_toArray, List.getElem?_cons_succ, List.getElem?_cons_zero]; rfl) (by kernel_rfl) (by kernel_rfl) (by kernel_rfl) (by kernel_rfl) (by exact fun _ _ _ h => h) ?_ (by assumption) ?_
      rotate_left
      · refine Or.inl ⟨by rfl, ?_⟩
        (intro w hSw; (try dsimp only at hSw); go_simp; try with_reducible rfl)
      try simp only [Act.put, List.setIfInBounds_toArray, List.set_cons_zero, List.set_cons_succ]
      refine HeldT.take (i := 3) (v := ?_) (by simp only [List.getElem?_toArray, List.getElem?_cons_succ, List.getElem?_cons_zero]; rfl) (by kernel_rfl) (by kernel_rfl) (by kernel_rfl) (by kernel_rfl) (by exact fun _ _ _ h => h) ?_ (by assumption) ?_
      rotate_left
      · refine Or.inl ⟨by rfl, ?_⟩
        (intro w hSw; (try dsimp only at hSw); go_simp; try with_reducible rfl)
      try simp only [Act.put, List.setIfInBounds_toArray, List.set_cons_zero, List.set_cons_succ]
      refine HeldT.one (i := 4) (by simp only [List.getElem?_toArray, List.getElem?_cons_succ, List.getElem?_cons_zero]; rfl) (by kernel_rfl) (by kernel_rfl) (fun K hK => ?_)
      go_simp
      ((refine (HP.out _).mono ?_); rintro e w2 ⟨b, rfl, hb, rfl⟩)
      try go_wp2_with fail
      refine hK.out _ _ ?_ (fun hHeld => ?_)
      · (try dsimp only); first | done | (exact hcv2)
      clear hK K
      try simp only [Act.put, List.setIfInBounds_toArray, List.set_cons_zero, List.set_cons_succ]
      refine HeldT.take (i := 5) (v := ?_) (by simp only [List.getElem?_toArray, List.getElem?_cons_succ, List.getElem?_cons_zero]; rfl) (by kernel_rfl) (by kernel_rfl) (by kernel_rfl) (by kernel_rfl) (by exact fun _ _ _ h => h) ?_ (by assumption) ?_
      rotate_left
      · refine Or.inl ⟨by rfl, ?_⟩
        (intro w hSw; (try dsimp only at hSw); go_simp; try with_reducible rfl)
      try simp only [Act.put, List.setIfInBounds_toArray, List.set_cons_zero, List.set_cons_succ]
      refine HeldT.tail (by kernel_rfl) rfl ?_
      have HBB := Go.Lib.hid hb
      clear hb
      go_wp2_with fail
      go_returns
      exact ⟨O, b, rfl, fun h => HE.out (HBB.out h), HB.out.drew⟩
end Go.Proofs.Ytakmcnincmgadaa
