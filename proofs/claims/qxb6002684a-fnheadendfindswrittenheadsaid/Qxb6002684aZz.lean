import Derived.Test.Qxb6002684aStrs
namespace Go.Proofs.Qxb6002684a
open Go.RowKit
set_option linter.unusedSimpArgs false
set_option linter.unusedVariables false

def ZRel (n : Nat) (t i : Value) : Prop := ∃ k : Nat, k ≤ n ∧ i = .int .i64 k ∧ ∃ z : Int, t = .int .i64 z ∧ 0 ≤ z ∧ z ≤ 1048576

theorem bool_then (b : Bool) (w : World) : BoolThen (.returned (.bool b)) True ∧ w = w := ⟨⟨b, rfl, fun _ => trivial⟩, rfl⟩

set_option maxHeartbeats 1000000 in
theorem zz_any (s : ByteArray) (a : Option Addr) (cap : Nat) (ss : List ByteArray) (a' : Option Addr) (cap' : Nat) (ss' : List ByteArray) (w : World) (h : Strs w a ss) (h' : Strs w a' ss') :
    Calls Try.prog 20 #[.string s, .slice a ss.length cap, .slice a' ss'.length cap'] w fun e w' => BoolThen e True ∧ w' = w := by
  have HS : Hid (Strs w a ss) := h
  have HS' : Hid (Strs w a' ss') := h'
  clear h h'
  obtain ⟨q, hq⟩ : ∃ z : Int, (s.size : Int) = z := ⟨_, rfl⟩
  have hq0 : 0 ≤ q := by omega
  obtain ⟨l, hl⟩ : ∃ z : Int, (ss.length : Int) = z := ⟨_, rfl⟩
  obtain ⟨l', hl'⟩ : ∃ z : Int, (ss'.length : Int) = z := ⟨_, rfl⟩
  have HL : Hid ((ss.length : Int) = l) := hl
  have HL' : Hid ((ss'.length : Int) = l') := hl'
  have hl0 : 0 ≤ l := by omega
  have hl0' : 0 ≤ l' := by omega
  go_enter Try.func20, Try.ntmps20
  go_wp2
  · go_ret; exact bool_then _ _
  · go_ret; exact bool_then _ _
  · go_ret; exact bool_then _ _
  have hq1 : q + l ≤ 1048576 := by assumption
  clear hl
  go_loop [7, 8] (fun t i => ZRel ss.length t i) (fun _ i => ss.length - (intOf i).toNat)
  case atStart => exact ⟨0, Nat.zero_le _, rfl, _, rfl, by omega, by omega⟩
  case round =>
    obtain ⟨k, hk, rfl, z, rfl, hz0, hz1⟩ := hrel
    have hl := HL.out
    by_cases hlt : k < ss.length
    · obtain ⟨x, rfl, hc⟩ := HS.out k hlt
      obtain ⟨t, ht⟩ : ∃ s, ss.getD k ByteArray.empty = s := ⟨_, rfl⟩
      rw [ht] at hc
      clear ht
      obtain ⟨p, hp⟩ : ∃ z : Int, (t.size : Int) = z := ⟨_, rfl⟩
      have hp0 : 0 ≤ p := by omega
      have hkl : (k : Int) < l := by omega
      go_wp2
      · go_ret; exact bool_then _ _
      · go_ret; exact bool_then _ _
      · go_round
        case rel => exact ⟨k + 1, by omega, by go_num, _, rfl, by omega, by assumption⟩
        case measure => simp [intOf]; omega
    · have hkl : ¬ (k : Int) < l := by omega
      clear HS HL
      go_wp2
      · go_ret; exact bool_then _ _
      · go_ret; exact bool_then _ _
      · have hz2 : z + l' ≤ 1048576 := by assumption
        clear hz1 hl'
        go_loop [7, 9] (fun t i => ZRel ss'.length t i) (fun _ i => ss'.length - (intOf i).toNat)
        case atStart => exact ⟨0, Nat.zero_le _, rfl, _, rfl, by omega, by omega⟩
        case round =>
          obtain ⟨k', hk', rfl, z', rfl, hz0', hz1'⟩ := hrel
          have hl' := HL'.out
          by_cases hlt : k' < ss'.length
          · obtain ⟨x, rfl, hc⟩ := HS'.out k' hlt
            obtain ⟨t, ht⟩ : ∃ s, ss'.getD k' ByteArray.empty = s := ⟨_, rfl⟩
            rw [ht] at hc
            clear ht
            obtain ⟨p, hp⟩ : ∃ z : Int, (t.size : Int) = z := ⟨_, rfl⟩
            have hp0 : 0 ≤ p := by omega
            have hkl : (k' : Int) < l' := by omega
            go_wp2
            · go_ret; exact bool_then _ _
            · go_ret; exact bool_then _ _
            · go_round
              case rel => exact ⟨k' + 1, by omega, by go_num, _, rfl, by omega, by assumption⟩
              case measure => simp [intOf]; omega
          · have hkl : ¬ (k' : Int) < l' := by omega
            go_wp2
            go_ret; exact bool_then _ _
end Go.Proofs.Qxb6002684a
