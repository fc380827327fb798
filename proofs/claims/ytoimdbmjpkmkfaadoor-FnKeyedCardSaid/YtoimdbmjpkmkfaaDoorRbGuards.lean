/- laws.ascii9, line9, zzFits11. -/
import Derived.Test.YtoimdbmjpkmkfaaDoorRbAfter
import Derived.Laws.IdiomStrings
namespace Go.Proofs.YtoimdbmjpkmkfaaDoor
open Go.RowKit
set_option linter.unusedVariables false
set_option linter.unusedSimpArgs false

def Ascii9Post (s : ByteArray) (w : World) (e : Ending) (w' : World) : Prop := ∃ b, e = .returned (.bool b) ∧ (b = true → IsAscii s ∧ s.size ≤ 300) ∧ w' = w

theorem ascii9_any (s : ByteArray) (w : World) (hs : s.size ≤ 2147483647) : Calls Tryd.prog 14 #[.string s] w (Ascii9Post s w) := by
  go_enter Tryd.func14, Tryd.ntmps14
  go_wp2
  go_loop [6] (fun i => ∃ k : Nat, k ≤ s.size ∧ i = .int .i64 k ∧ Hid (∀ (j : Nat) (hj : j < s.size), j < k → (s[j]'hj).toNat < 128)) (fun i => s.size - (intOf i).toNat)
  case atStart => exact ⟨0, Nat.zero_le _, rfl, fun j hj h => by omega⟩
  case round =>
    obtain ⟨k, hk, rfl, HN⟩ := hrel
    by_cases hlt : k < s.size
    · by_cases c1 : (128 : Int) ≤ (s[k].toNat : Int)
      · go_wp2_with fail
        go_returns
        exact ⟨false, rfl, (fun h => by cases h), rfl⟩
      · have C1 := Go.Lib.hid c1
        go_wp2_with fail
        go_round
        case rel => exact ⟨k + 1, by omega, by go_num, fun j hj h => by
          by_cases e : j < k
          · exact HN.out j hj e
          · obtain rfl : j = k := by omega
            have := C1.out; omega⟩
        case measure => simp [intOf]; omega
    · have ha : IsAscii s := isAscii_of s fun i hi => HN.out i hi (by omega)
      have HA := Go.Lib.hid ha
      clear ha
      go_wp2_with fail
      go_returns
      exact ⟨_, rfl, fun h => ⟨HA.out, by simp at h; omega⟩, rfl⟩

def Lined (s : ByteArray) (a : Int) : Prop := IsAscii s ∧ s.size ≤ 300 ∧ 0 ≤ a ∧ a ≤ s.size
def LinePost (s : ByteArray) (a : Int) (m : Nat) (w : World) (e : Ending) (w' : World) : Prop := ∃ b, e = .returned (.bool b) ∧ (b = true → Lined s a ∧ s.size ≤ m) ∧ Below w.heap.size w w'

def FitsPost (s : ByteArray) (w : World) (e : Ending) (w' : World) : Prop := ∃ b, e = .returned (.bool b) ∧ (b = true → s.size ≤ 2147483647) ∧ Below w.heap.size w w'
/-- Code points of ASCII, written out. -/
theorem bytes_cat (a b : List Int) : runesBytes (a ++ b) = runesBytes a ++ runesBytes b := ba_ext (by rw [ByteArray.toList_data_append, runesBytes_list, runesBytes_list, runesBytes_list, enc_append])
theorem bytes_runes (s : ByteArray) (h : IsAscii s) : runesBytes (runes s) = s := by
  have := runesBytes_sub s h 0 s.size
  rw [List.drop_zero, Nat.sub_zero, List.take_of_length_le (by rw [runes_ascii_length s h]; exact Nat.le_refl _)] at this
  rw [this, extract_all]
theorem bytes_take (s : ByteArray) (h : IsAscii s) (i : Nat) : runesBytes ((runes s).take i) = s.extract 0 i := by
  have := runesBytes_sub s h 0 i
  rwa [List.drop_zero, Nat.sub_zero] at this
theorem bytes_drop (s : ByteArray) (h : IsAscii s) (i : Nat) : runesBytes ((runes s).drop i) = s.extract i s.size := by
  have := runesBytes_sub s h i s.size
  rwa [List.take_of_length_le (by simp [runes_ascii_length s h])] at this
/-- A script of one step, of two, of three, made for a call. -/
theorem kys_new (w : World) (es : List Ky) (t : TypeId) (cs : Array Value) (h : cs.toList = flat es) : KysAt (w.alloc (.cells cs t)) w.heap.size 0 es := kys_of_flat fun j u hu => by
  rw [World.cell?, heap_alloc_new]
  have : cs.toList[j]? = some u := by rw [h]; exact hu
  simpa using this

def NewPost (out : ByteArray) (k : Nat) (w : World) (e : Ending) (w' : World) : Prop := e = .returned (.tuple #[.agg #[.string out, .int .i64 (k : Nat)], .bool true]) ∧ Below w.heap.size w w'
theorem bytes_size (s : ByteArray) (h : IsAscii s) (l : List Int) (hl : ∀ z ∈ l, z ∈ runes s) : (runesBytes l).size = l.length := by
  have hb : ∀ l : List Int, (∀ z ∈ l, z ∈ runes s) → (enc l).length = l.length := by
    intro l
    induction l with
    | nil => intro _; rfl
    | cons z t ih =>
      intro hz
      have hz0 := hz z (by simp)
      rw [runes_ascii s h] at hz0
      obtain ⟨c, hc, rfl⟩ := List.mem_map.1 hz0
      have := enc_ascii [c] (by simpa using h c hc)
      simp only [List.map_cons, List.map_nil] at this
      rw [show ((c.toNat : Int) :: t) = [(c.toNat : Int)] ++ t from rfl, enc_append, this, List.length_append, ih (fun y hy => hz y (by simp [hy]))]
      simp; omega
  have : (runesBytes l).data.toList.length = (runesBytes l).size := by simp
  rw [← this, runesBytes_list, hb l hl]
end Go.Proofs.YtoimdbmjpkmkfaaDoor
