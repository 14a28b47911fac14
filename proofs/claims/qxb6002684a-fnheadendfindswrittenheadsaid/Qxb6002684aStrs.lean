import Derived.Test.Qxb6002684aRows
import Derived.WalkKit
import Derived.WalkSpells
import Derived.WalkLawsBesides
namespace Go.Proofs.Qxb6002684a
open Go.RowKit
set_option linter.unusedSimpArgs false
set_option linter.unusedVariables false

/-- The slice at 'a' holds the strings 'ss'. -/
def Strs (w : World) (a : Option Addr) (ss : List ByteArray) : Prop :=
  ∀ i, i < ss.length → ∃ x, a = some x ∧ w.cell? (x.add i) = some (.string (ss.getD i ByteArray.empty))

def tot (ss : List ByteArray) : Nat := (ss.map fun s => s.size + 16).sum
theorem tot_snoc (ss : List ByteArray) (k : Nat) (hk : k < ss.length) : tot (ss.take (k + 1)) = tot (ss.take k) + ((ss.getD k ByteArray.empty).size + 16) := by
  unfold tot
  rw [List.take_succ_eq_append_getElem hk, List.map_append, List.sum_append]
  simp [List.getD_eq_getElem?_getD, hk]

def NoLF (s : ByteArray) : Prop := ∀ i (h : i < s.size), ¬ ((s[i].toNat : Int) = 10)

/-- It answers a bool; where it answers false, p holds. -/
def BoolThen (e : Ending) (p : Prop) : Prop := ∃ b, e = .returned (.bool b) ∧ (b = false → p)

def SRel (ss : List ByteArray) (t i : Value) : Prop := ∃ k : Nat, k ≤ ss.length ∧ i = .int .i64 k ∧ ∃ n : Nat, t = .int .i64 n ∧ n ≤ 1048576 ∧ n = tot (ss.take k)
set_option maxHeartbeats 400000 in
theorem sbytes_any (a : Option Addr) (cap : Nat) (ss : List ByteArray) (w : World) (h : Strs w a ss) :
    Calls Try.prog 21 #[.slice a ss.length cap] w fun e w' => ∃ t : Nat, e = .returned (.int .i64 t) ∧ w' = w ∧ t ≤ 1048577 ∧ (t ≤ 1048576 → ss.length ≤ 65536 ∧ tot ss = t) := by
  have HS : Hid (Strs w a ss) := h
  clear h
  by_cases hbig : 65536 < ss.length
  · have hbig' : (65536 : Int) < (ss.length : Int) := by omega
    go_enter Try.func21, Try.ntmps21
    go_wp2
    go_ret
    exact ⟨1048577, rfl, rfl, by omega, by omega⟩
  · have hbig' : (ss.length : Int) ≤ 65536 := by omega
    go_enter Try.func21, Try.ntmps21
    go_wp2
    go_loop [3, 4] (fun t i => SRel ss t i) (fun _ i => ss.length - (intOf i).toNat)
    case atStart => exact ⟨0, Nat.zero_le _, rfl, 0, rfl, by omega, rfl⟩
    case round =>
      obtain ⟨k, hk, rfl, n, rfl, hn, ht⟩ := hrel
      have HT : Hid (n = tot (ss.take k)) := ht
      clear ht
      by_cases hlt : k < ss.length
      · obtain ⟨x, rfl, hc⟩ := HS.out k hlt
        have HN : Hid _ := tot_snoc ss k hlt
        obtain ⟨s, hs⟩ : ∃ s, ss.getD k ByteArray.empty = s := ⟨_, rfl⟩
        rw [hs] at hc HN
        clear hs
        by_cases hs1 : 1048576 < s.size
        · have hs1' : (1048576 : Int) < (s.size : Int) := by omega
          go_wp2
          go_ret
          exact ⟨1048577, rfl, rfl, by omega, by omega⟩
        by_cases hs2 : 1048576 < n + (s.size + 16)
        · have hs1' : (s.size : Int) ≤ 1048576 := by omega
          have hs2' : (1048576 : Int) < (n : Int) + ((s.size : Int) + 16) := by omega
          go_wp2
          go_ret
          exact ⟨1048577, rfl, rfl, by omega, by omega⟩
        · obtain ⟨z, hz⟩ : ∃ z : Int, (s.size : Int) = z := ⟨_, rfl⟩
          have hz0 : 0 ≤ z := by omega
          have hz1 : z ≤ 1048576 := by omega
          have hz2 : (n : Int) + (z + 16) ≤ 1048576 := by omega
          have hn0 : 0 ≤ (n : Int) := by omega
          have HH : Hid (¬ 1048576 < n + (s.size + 16)) := hs2
          clear hs2 hs1 HS
          go_wp2
          have hs2 := HH.out
          go_round
          case rel => exact ⟨k + 1, by omega, by go_num, n + (s.size + 16), by go_num, by omega, by rw [HN.out, HT.out]⟩
          case measure => simp [intOf]; omega
      · go_wp2
        go_ret
        refine ⟨n, rfl, rfl, by omega, fun _ => ⟨by omega, ?_⟩⟩
        have := HT.out
        rw [List.take_of_length_le (by omega)] at this
        omega

set_option maxHeartbeats 400000 in
theorem has_any (s : ByteArray) (w : World) (hs : s.size ≤ 1048576) :
    Calls Try.prog 11 #[.string s, .int .u8 10] w fun e w' => BoolThen e (NoLF s) ∧ w' = w := by
  go_enter Try.func11, Try.ntmps11
  go_wp2
  go_loop [5] (fun i => ∃ k : Nat, k ≤ s.size ∧ i = .int .i64 k ∧ ∀ j (h : j < s.size), j < k → ¬ ((s[j].toNat : Int) = 10)) (fun i => s.size - (intOf i).toNat)
  case atStart => exact ⟨0, Nat.zero_le _, rfl, fun _ _ h => by omega⟩
  case round =>
    obtain ⟨k, hk, rfl, hp⟩ := hrel
    have HP : Hid (∀ j (h : j < s.size), j < k → ¬ ((s[j].toNat : Int) = 10)) := hp
    clear hp
    by_cases hlt : k < s.size
    · go_wp2
      · go_ret
        exact ⟨⟨true, rfl, fun h => by cases h⟩, rfl⟩
      · have hne : ((s[k].toNat : Int) == 10) = false := by assumption
        go_round
        case rel =>
          refine ⟨k + 1, by omega, by go_num, fun j hj hjk => ?_⟩
          by_cases hjk' : j = k
          · subst hjk'; simpa using hne
          · exact HP.out j hj (by omega)
        case measure => simp [intOf]; omega
    · go_wp2
      go_ret
      exact ⟨⟨false, rfl, fun _ j hj => HP.out j hj (by omega)⟩, rfl⟩

set_option maxHeartbeats 400000 in
theorem anyhas_any (a : Option Addr) (cap : Nat) (ss : List ByteArray) (w : World) (h : Strs w a ss) (hl : ss.length ≤ 65536) (hs : ∀ i, i < ss.length → (ss.getD i ByteArray.empty).size ≤ 1048576) :
    Calls Try.prog 22 #[.slice a ss.length cap, .int .u8 10] w fun e w' => BoolThen e (∀ i, i < ss.length → NoLF (ss.getD i ByteArray.empty)) ∧ w' = w := by
  have HS : Hid (Strs w a ss) := h
  have HZ : Hid (∀ i, i < ss.length → (ss.getD i ByteArray.empty).size ≤ 1048576) := hs
  clear h hs
  go_enter Try.func22, Try.ntmps22
  go_wp2
  go_loop [5] (fun i => ∃ k : Nat, k ≤ ss.length ∧ i = .int .i64 k ∧ ∀ j, j < k → NoLF (ss.getD j ByteArray.empty)) (fun i => ss.length - (intOf i).toNat)
  case atStart => exact ⟨0, Nat.zero_le _, rfl, fun _ h => by omega⟩
  case round =>
    obtain ⟨k, hk, rfl, hp⟩ := hrel
    have HP : Hid (∀ j, j < k → NoLF (ss.getD j ByteArray.empty)) := hp
    clear hp
    by_cases hlt : k < ss.length
    · obtain ⟨x, rfl, hc⟩ := HS.out k hlt
      have HC : Hid _ := has_any (ss.getD k ByteArray.empty) w (HZ.out k hlt)
      obtain ⟨s, hs⟩ : ∃ s, ss.getD k ByteArray.empty = s := ⟨_, rfl⟩
      have HE : Hid (ss.getD k ByteArray.empty = s) := hs
      rw [hs] at hc HC
      clear hs
      go_wp2_with fail
      refine Calls.mono HC.out ?_
      rintro e w' ⟨⟨b, rfl, hb⟩, rfl⟩
      cases b
      · have hno := hb rfl
        clear hb
        have HB : Hid (NoLF s) := hno
        clear hno
        go_wp2
        go_round
        case rel =>
          refine ⟨k + 1, by omega, by go_num, fun j hjk => ?_⟩
          by_cases hjk' : j = k
          · subst hjk'; rw [HE.out]; exact HB.out
          · exact HP.out j (by omega)
        case measure => simp [intOf]; omega
      · clear hb
        go_wp2
        go_ret
        exact ⟨⟨true, rfl, fun h => by cases h⟩, rfl⟩
    · go_wp2
      go_ret
      exact ⟨⟨false, rfl, fun _ j hj => HP.out j (by omega)⟩, rfl⟩
end Go.Proofs.Qxb6002684a
