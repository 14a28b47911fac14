import Derived.Test.Qxb6600163aRows
import Derived.Test.Qxb6600163aPlain
import Derived.WalkKit
import Derived.WalkSpells
import Derived.WalkLawsBesides
import Derived.Lib.Bytealg
import Derived.Lib.IndexLaws
import Derived.Lib.Strings
namespace Go.Proofs.Qxb6600163a
open Go.RowKit
set_option linter.unusedSimpArgs false
set_option linter.unusedVariables false

theorem ret_bool {a b : Bool} (h : a = b) : Ending.returned (.bool a) = .returned (.bool b) := by rw [h]
theorem at_get (s : ByteArray) (k : Nat) (h : k < s.size) : s.data.toList.getD k 0 = s[k] := by
  simp [List.getD_eq_getElem?_getD]
  rw [Array.getElem?_eq_getElem (by simpa using h)]
  rfl
theorem len_eq (s : ByteArray) : s.data.toList.length = s.size := by simp

/-- It answers a bool; where it answers true, p holds. -/
def BoolYes (e : Ending) (p : Prop) : Prop := ∃ b, e = .returned (.bool b) ∧ (b = true → p)
/-- The bytes of s up to k are digits. -/
def DigTo (s : ByteArray) (k : Nat) : Prop := ∀ j (h : j < s.size), j < k → 48 ≤ s[j].toNat ∧ s[j].toNat ≤ 57
theorem digTo_all {s : ByteArray} (h : DigTo s s.size) : Dig s.data.toList := by
  intro b hb
  obtain ⟨i, hi, rfl⟩ := List.getElem_of_mem hb
  have hi' : i < s.size := by simpa using hi
  exact h i hi' hi'
theorem dig_at {s : ByteArray} (h : Dig s.data.toList) (k : Nat) (hk : k < s.size) : 48 ≤ s[k].toNat ∧ s[k].toNat ≤ 57 := by
  refine h s[k] ?_
  have : s[k] = s.data.toList[k]'(by simpa using hk) := rfl
  rw [this]
  exact List.getElem_mem _

set_option maxHeartbeats 1000000 in
theorem digits_any (s : ByteArray) (w : World) (hs : s.size ≤ 1048576) :
    Calls Try.prog 15 #[.string s] w fun e w' => BoolYes e (0 < s.size ∧ Dig s.data.toList) ∧ w' = w := by
  cases he : s.toList.isEmpty
  case true =>
    go_enter Try.func15, Try.ntmps15
    go_wp2
    go_ret
    exact ⟨⟨false, rfl, fun h => by cases h⟩, rfl⟩
  have hpos : 0 < s.size := by
    rw [ByteArray.toList_eq] at he
    have : s.data.toList ≠ [] := by simpa using he
    have := List.length_pos_iff.2 this
    rw [len_eq] at this
    exact this
  have HPOS : Hid (0 < s.size) := hpos
  clear hpos
  go_enter Try.func15, Try.ntmps15
  go_wp2
  go_loop [3] (fun i => ∃ k : Nat, k ≤ s.size ∧ i = .int .i64 k ∧ DigTo s k) (fun i => s.size - (intOf i).toNat)
  case atStart => exact ⟨0, Nat.zero_le _, rfl, fun _ _ h => by omega⟩
  case round =>
    obtain ⟨k, hk, rfl, hp⟩ := hrel
    have HP : Hid (DigTo s k) := hp
    clear hp
    by_cases hlt : k < s.size
    · obtain ⟨c, hc⟩ : ∃ c : Int, (s[k].toNat : Int) = c := ⟨_, rfl⟩
      have HC : Hid ((s[k].toNat : Int) = c) := hc
      rcases (show c < 48 ∨ 57 < c ∨ (48 ≤ c ∧ c ≤ 57) from by omega) with h | h | ⟨h, h'⟩
      · go_wp2
        go_ret
        exact ⟨⟨false, rfl, fun h => by cases h⟩, rfl⟩
      · have h2 : 48 ≤ c := by omega
        go_wp2
        go_ret
        exact ⟨⟨false, rfl, fun h => by cases h⟩, rfl⟩
      · go_wp2
        go_round
        case rel =>
          refine ⟨k + 1, by omega, by go_num, fun j hj hjk => ?_⟩
          by_cases e : j = k
          · subst e; have := HC.out; omega
          · exact HP.out j hj (by omega)
        case measure => simp [intOf]; omega
    · have hke : k = s.size := by omega
      have HA : Hid (Dig s.data.toList) := digTo_all (by rw [← hke]; exact HP.out)
      clear HP
      go_wp2
      go_ret
      exact ⟨⟨true, rfl, fun _ => ⟨HPOS.out, HA.out⟩⟩, rfl⟩

set_option maxHeartbeats 1000000 in
theorem zzdigits_any (s : ByteArray) (w : World) (hs : s.size ≤ 1048576) :
    Calls Try.prog 9 #[.string s] w fun e w' => BoolYes e (0 < s.size ∧ Dig s.data.toList) ∧ w' = w := by
  go_enter Try.func9, Try.ntmps9
  go_wp2_with fail
  refine (digits_any s w hs).mono ?_
  rintro e w' ⟨⟨b, rfl, h⟩, hw⟩
  obtain rfl := hw.symm
  have HB : Hid (b = true → (0 < s.size ∧ Dig s.data.toList)) := h
  clear h
  go_wp2
  go_ret
  exact ⟨⟨b, rfl, HB.out⟩, rfl⟩

/-- 'strings.TrimPrefix(s, "-")' of digits. -/
theorem no_dash {s : ByteArray} (hd : Dig s.data.toList) (hp : 0 < s.size) : ((s.extract 0 1).toList == [45]) = false := by
  have h0 := dig_at hd 0 hp
  cases h : ((s.extract 0 1).toList == [45])
  · rfl
  · have h1 := eq_of_beq h
    have h2 : (s.extract 0 1).toList = s.data.toList.take 1 := by rw [Lib.extract_toList]; simp
    rw [h2] at h1
    have h3 := at_get s 0 hp
    have h4 : s.data.toList.getD 0 0 = 45 := by
      cases hl : s.data.toList with
      | nil => rw [hl] at h1; simp at h1
      | cons x l => rw [hl] at h1; simp at h1; simp [h1]
    rw [h4] at h3
    rw [← h3] at h0
    simp at h0
theorem no_dot {s : ByteArray} (hd : Dig s.data.toList) : Lib.indexByte s.data.toList 46 = -1 := by
  have hge := Lib.indexByte_ge s.data.toList 46
  by_cases h : Lib.indexByte s.data.toList 46 = -1
  · exact h
  · obtain ⟨o, ho⟩ : ∃ o : Nat, Lib.indexByte s.data.toList 46 = o := ⟨(Lib.indexByte s.data.toList 46).toNat, by omega⟩
    obtain ⟨h1, _⟩ := Lib.indexByte_some ho
    have := hd 46 (List.mem_of_getElem? h1)
    simp at this
theorem not_dot {s : ByteArray} (hd : Dig s.data.toList) : ([46] == s.toList) = false := by
  cases h : ([46] == s.toList)
  · rfl
  · have h1 := eq_of_beq h
    rw [ByteArray.toList_eq] at h1
    have := hd 46 (by rw [← h1]; simp)
    simp at this
end Go.Proofs.Qxb6600163a
