import Derived.Test.Qxb6600093aLoops
namespace Go.Proofs.Qxb6600093a
open Go.RowKit
set_option linter.unusedSimpArgs false
set_option linter.unusedVariables false

/-- The bytes up to k are a scheme's. -/
def SchTo (s : ByteArray) (k : Nat) : Prop := ∀ j (h : j < s.size), j < k → schB j (s[j].toNat : Int) = true
theorem schTo_all {s : ByteArray} (h : SchTo s s.size) : isSch s.data.toList = !s.toList.isEmpty := by
  rw [ByteArray.toList_eq]
  unfold isSch
  have : ((List.range s.data.toList.length).all fun i => schB i ((s.data.toList.getD i 0).toNat : Int)) = true := by
    rw [List.all_eq_true]
    intro i hi
    have hi' : i < s.size := by simpa using hi
    rw [at_get s i hi']
    exact h i hi' hi'
  rw [this, Bool.and_true]
theorem schTo_not {s : ByteArray} {k : Nat} (hk : k < s.size) (h : schB k (s[k].toNat : Int) = false) : isSch s.data.toList = false := by
  cases ha : isSch s.data.toList
  · rfl
  · have := ((isSch_iff _).1 ha).2 k (by simpa using hk)
    rw [at_get s k hk, h] at this
    cases this
theorem schTo_succ {s : ByteArray} {k : Nat} (h : SchTo s k) (hk : k < s.size) (ht : schB k (s[k].toNat : Int) = true) : SchTo s (k + 1) := by
  intro j hj hjk
  by_cases e : j = k
  · subst e; exact ht
  · exact h j hj (by omega)

set_option maxHeartbeats 1000000 in
theorem issch_any (s : ByteArray) (w : World) (hs : s.size ≤ 1048576) :
    Calls Try.prog 32 #[.string s] w fun e w' => e = .returned (.bool (isSch s.data.toList)) ∧ w' = w := by
  go_enter Try.func32, Try.ntmps32
  go_wp2
  go_loop [3] (fun i => ∃ k : Nat, k ≤ s.size ∧ i = .int .i64 k ∧ SchTo s k) (fun i => s.size - (intOf i).toNat)
  case atStart => exact ⟨0, Nat.zero_le _, rfl, fun _ _ h => by omega⟩
  case round =>
    obtain ⟨k, hk, rfl, hp⟩ := hrel
    have HP : Hid (SchTo s k) := hp
    clear hp
    by_cases hlt : k < s.size
    · have hb := byte_lt s[k]
      have HN : Hid (schB k (s[k].toNat : Int) = false → isSch s.data.toList = false) := schTo_not hlt
      have HY : Hid (schB k (s[k].toNat : Int) = true → SchTo s (k + 1)) := schTo_succ HP.out hlt
      obtain ⟨c, hc⟩ : ∃ c : Int, (s[k].toNat : Int) = c := ⟨_, rfl⟩
      rw [hc] at HN HY
      have hc0 : 0 ≤ c := by omega
      clear hb
      rcases (show c < 43 ∨ c = 43 ∨ c = 44 ∨ c = 45 ∨ c = 46 ∨ c = 47 ∨ (48 ≤ c ∧ c ≤ 57) ∨ (58 ≤ c ∧ c ≤ 64) ∨ (65 ≤ c ∧ c ≤ 90) ∨ (91 ≤ c ∧ c ≤ 96) ∨ (97 ≤ c ∧ c ≤ 122) ∨ 123 ≤ c from by omega) with h | rfl | rfl | rfl | rfl | rfl | ⟨h, h'⟩ | ⟨h, h'⟩ | ⟨h, h'⟩ | ⟨h, h'⟩ | ⟨h, h'⟩ | h
      all_goals rcases Nat.eq_zero_or_pos k with hk0 | hk0
      all_goals first | subst hk0 | (have hk1 : ((k : Int) == 0) = false := by simp; omega)
      all_goals go_wp2
      all_goals first | (go_ret; refine ⟨ret_bool (HN.out ?_).symm, rfl⟩; clear HN HY HP; simp [schB, lowB, upB, digB]; omega) | (go_ret; refine ⟨ret_bool (HN.out ?_).symm, rfl⟩; clear HN HY HP; simp [schB, lowB, upB, digB]; done) | skip
      all_goals first | (exfalso; rename_i hx; simp at hx; omega) | (go_round; (case rel => exact ⟨_, by omega, by go_num, HY.out (by clear HN HY HP hc; simp [schB, lowB, upB, digB]; omega)⟩); (case measure => simp [intOf]; omega)) | (go_round; (case rel => exact ⟨_, by omega, by go_num, HY.out (by clear HN HY HP hc; simp [schB, lowB, upB, digB] <;> omega)⟩); (case measure => simp [intOf]; omega))
    · have hke : k = s.size := by omega
      have HA : Hid (isSch s.data.toList = !s.toList.isEmpty) := schTo_all (by rw [← hke]; exact HP.out)
      go_wp2
      go_ret
      exact ⟨ret_bool (by rw [HA.out]), rfl⟩

set_option maxHeartbeats 1000000 in
theorem zztok_any (s : ByteArray) (w : World) (hs : s.size ≤ 1048576) :
    Calls Try.prog 22 #[.string s] w fun e w' => e = .returned (.bool (isTok s.data.toList)) ∧ w' = w := by
  go_enter Try.func22, Try.ntmps22
  go_wp2_with (go_at_call 31; refine (istok_any _ _ hs).mono ?_; rintro e w' ⟨rfl, rfl⟩)
  go_ret
  exact ⟨rfl, rfl⟩

set_option maxHeartbeats 1000000 in
theorem zzsch_any (s : ByteArray) (w : World) (hs : s.size ≤ 1048576) :
    Calls Try.prog 26 #[.string s] w fun e w' => e = .returned (.bool (isSch s.data.toList)) ∧ w' = w := by
  go_enter Try.func26, Try.ntmps26
  go_wp2_with (go_at_call 32; refine (issch_any _ _ hs).mono ?_; rintro e w' ⟨rfl, rfl⟩)
  go_ret
  exact ⟨rfl, rfl⟩
end Go.Proofs.Qxb6600093a
