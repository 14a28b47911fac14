import Derived.Test.Qxb6600093aBytes
namespace Go.Proofs.Qxb6600093a
open Go.RowKit
set_option linter.unusedSimpArgs false
set_option linter.unusedVariables false

theorem at_get (s : ByteArray) (k : Nat) (h : k < s.size) : s.data.toList.getD k 0 = s[k] := by
  have h' : k < s.data.toList.length := by simpa using h
  simp [List.getD_eq_getElem?_getD]
  rw [Array.getElem?_eq_getElem (by simpa using h)]
  rfl
theorem len_eq (s : ByteArray) : s.data.toList.length = s.size := by simp
/-- The bytes up to k are token bytes. -/
def TokTo (s : ByteArray) (k : Nat) : Prop := ∀ j (h : j < s.size), j < k → tokB (s[j].toNat : Int) = true
theorem tokTo_all {s : ByteArray} (h : TokTo s s.size) : allTok s.data.toList = true :=
  (allTok_iff _).2 fun i hi => by
    have hi' : i < s.size := by simpa using hi
    rw [at_get s i hi']
    exact h i hi' hi'
theorem tokTo_not {s : ByteArray} {k : Nat} (hk : k < s.size) (h : tokB (s[k].toNat : Int) = false) : allTok s.data.toList = false := by
  cases ha : allTok s.data.toList
  · rfl
  · have := (allTok_iff _).1 ha k (by simpa using hk)
    rw [at_get s k hk, h] at this
    cases this
theorem tokTo_succ {s : ByteArray} {k : Nat} (h : TokTo s k) (hk : k < s.size) (ht : tokB (s[k].toNat : Int) = true) : TokTo s (k + 1) := by
  intro j hj hjk
  by_cases e : j = k
  · subst e; exact ht
  · exact h j hj (by omega)

set_option maxHeartbeats 1000000 in
theorem alltchar_any (s : ByteArray) (w : World) (hs : s.size ≤ 1048576) :
    Calls Try.prog 15 #[.string s] w fun e w' => e = .returned (.bool (allTok s.data.toList)) ∧ w' = w := by
  go_enter Try.func15, Try.ntmps15
  go_wp2
  go_loop [3] (fun i => ∃ k : Nat, k ≤ s.size ∧ i = .int .i64 k ∧ TokTo s k) (fun i => s.size - (intOf i).toNat)
  case atStart => exact ⟨0, Nat.zero_le _, rfl, fun _ _ h => by omega⟩
  case round =>
    obtain ⟨k, hk, rfl, hp⟩ := hrel
    have HP : Hid (TokTo s k) := hp
    clear hp
    by_cases hlt : k < s.size
    · have hb := byte_lt s[k]
      have HC : Hid _ := fun w => tchar_any (s[k].toNat : Int) (by omega) (by omega) w
      cases ht : tokB (s[k].toNat : Int)
      · have HN : Hid (allTok s.data.toList = false) := tokTo_not hlt ht
        rw [ht] at HC
        clear ht
        go_wp2_with (go_at_call 30; refine Calls.mono (HC.out _) ?_; rintro e w' ⟨rfl, rfl⟩)
        go_ret
        exact ⟨ret_bool HN.out.symm, rfl⟩
      · have HN : Hid (TokTo s (k + 1)) := tokTo_succ HP.out hlt ht
        rw [ht] at HC
        clear ht
        go_wp2_with (go_at_call 30; refine Calls.mono (HC.out _) ?_; rintro e w' ⟨rfl, rfl⟩)
        go_round
        case rel => exact ⟨k + 1, by omega, by go_num, HN.out⟩
        case measure => simp [intOf]; omega
    · have hke : k = s.size := by omega
      have HA : Hid (allTok s.data.toList = true) := tokTo_all (by rw [← hke]; exact HP.out)
      go_wp2
      go_ret
      exact ⟨ret_bool HA.out.symm, rfl⟩

set_option maxHeartbeats 1000000 in
theorem istok_any (s : ByteArray) (w : World) (hs : s.size ≤ 1048576) :
    Calls Try.prog 31 #[.string s] w fun e w' => e = .returned (.bool (isTok s.data.toList)) ∧ w' = w := by
  have hl := ByteArray.toList_eq s
  cases he : s.toList.isEmpty
  case true =>
    have HN : Hid (isTok s.data.toList = false) := by show isTok _ = false; unfold isTok; rw [← hl, he]; rfl
    clear hl
    go_enter Try.func31, Try.ntmps31
    go_wp2
    go_ret
    exact ⟨ret_bool HN.out.symm, rfl⟩
  have HI : Hid (isTok s.data.toList = allTok s.data.toList) := by show isTok _ = _; unfold isTok; rw [← hl, he]; rfl
  clear hl
  go_enter Try.func31, Try.ntmps31
  go_wp2
  go_loop [3] (fun i => ∃ k : Nat, k ≤ s.size ∧ i = .int .i64 k ∧ TokTo s k) (fun i => s.size - (intOf i).toNat)
  case atStart => exact ⟨0, Nat.zero_le _, rfl, fun _ _ h => by omega⟩
  case round =>
    obtain ⟨k, hk, rfl, hp⟩ := hrel
    have HP : Hid (TokTo s k) := hp
    clear hp
    by_cases hlt : k < s.size
    · have hb := byte_lt s[k]
      have HC : Hid _ := fun w => tok_any (s[k].toNat : Int) (by omega) (by omega) w
      cases ht : tokB (s[k].toNat : Int)
      · have HN : Hid (allTok s.data.toList = false) := tokTo_not hlt ht
        rw [ht] at HC
        clear ht
        go_wp2_with (go_at_call 29; refine Calls.mono (HC.out _) ?_; rintro e w' ⟨rfl, rfl⟩)
        go_ret
        exact ⟨ret_bool (by rw [HI.out, HN.out]), rfl⟩
      · have HN : Hid (TokTo s (k + 1)) := tokTo_succ HP.out hlt ht
        rw [ht] at HC
        clear ht
        go_wp2_with (go_at_call 29; refine Calls.mono (HC.out _) ?_; rintro e w' ⟨rfl, rfl⟩)
        go_round
        case rel => exact ⟨k + 1, by omega, by go_num, HN.out⟩
        case measure => simp [intOf]; omega
    · have hke : k = s.size := by omega
      have HA : Hid (allTok s.data.toList = true) := tokTo_all (by rw [← hke]; exact HP.out)
      go_wp2
      go_ret
      exact ⟨ret_bool (by rw [HI.out, HA.out]), rfl⟩

end Go.Proofs.Qxb6600093a
