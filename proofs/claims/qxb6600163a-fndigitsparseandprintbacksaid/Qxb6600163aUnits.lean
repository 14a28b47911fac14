import Derived.Test.Qxb6600163aCut
namespace Go.Proofs.Qxb6600163a
open Go.RowKit
set_option linter.unusedSimpArgs false
set_option linter.unusedVariables false

def UnitsRes (l : List UInt8) (e : Ending) : Prop :=
  (val l ≤ maxI ∧ e = .returned (.tuple #[.int .i64 (val l : Int), .bool true])) ∨ (¬ val l ≤ maxI ∧ e = .returned (.tuple #[.int .i64 0, .bool false]))
theorem val_take (s : ByteArray) (k : Nat) (hk : k < s.size) : val (s.data.toList.take (k + 1)) = val (s.data.toList.take k) * 10 + (s[k].toNat - 48) := by
  rw [List.take_succ_eq_append_getElem (by simpa using hk), val_snoc]
  rfl

set_option maxHeartbeats 1000000 in
theorem units_any (nm : ByteArray) (r : Int) (s : ByteArray) (w : World) (hs : s.size ≤ 1048576) (hp : 0 < s.size) (hd : Dig s.data.toList) :
    Calls Try.prog 14 #[.agg #[.string nm, .int .i32 0, .int .i64 r], .string s] w fun e w' => UnitsRes s.data.toList e ∧ Below w.heap.size w w' := by
  have HD : Hid (Dig s.data.toList) := hd
  clear hd
  go_enter Try.func14, Try.ntmps14
  go_wp2_with (first | (go_at_call 18; refine (trim_any s _ hs hp HD.out).mono ?_; rintro e w' ⟨rfl, rfl⟩) | (go_at_call 17; refine (cut_any s _ hs HD.out).mono ?_; rintro e w' ⟨rfl, rfl⟩))
  go_loop [9, 25] (fun u i => ∃ k : Nat, k ≤ s.size ∧ i = .int .i64 k ∧ ∃ n : Nat, u = .int .i64 n ∧ Hid (n ≤ maxI ∧ n = val (s.data.toList.take k))) (fun _ i => s.size - (intOf i).toNat)
  case atStart => exact ⟨0, Nat.zero_le _, rfl, 0, rfl, Nat.zero_le _, rfl⟩
  case round =>
    obtain ⟨k, hk, rfl, n, rfl, HN⟩ := hrel
    by_cases hlt : k < s.size
    · have hdk := dig_at HD.out k hlt
      have HV : Hid (val (s.data.toList.take (k + 1)) = n * 10 + (s[k].toNat - 48)) := by show val _ = _; rw [val_take s k hlt, ← HN.out.2]
      obtain ⟨c, hc⟩ : ∃ c : Int, (s[k].toNat : Int) = c := ⟨_, rfl⟩
      have HC : Hid ((s[k].toNat : Int) = c) := hc
      have hc1 : 48 ≤ c := by omega
      have hc2 : c ≤ 57 := by omega
      obtain ⟨u, hu⟩ : ∃ u : Int, (n : Int) = u := ⟨_, rfl⟩
      have HU : Hid ((n : Int) = u) := hu
      have hu0 : 0 ≤ u := by omega
      have hu1 : u ≤ 9223372036854775807 := by have := HN.out.1; unfold maxI at this; omega
      clear hdk
      go_wp2_with fail
      · have ht : (9223372036854775807 - (c - 48)) / 10 < u := by assumption
        have hbig : ¬ val s.data.toList ≤ maxI := by
          have h1 := HV.out
          have h2 := val_take_le s.data.toList (k + 1)
          have h3 := HC.out
          have h4 := HU.out
          unfold maxI
          omega
        have HBIG : Hid (¬ val s.data.toList ≤ maxI) := hbig
        clear hbig ht
        go_ret2
        exact ⟨.inr ⟨HBIG.out, rfl⟩, (Below.refl _ _).alloc (Nat.le_refl _) _⟩
      · have ht : u ≤ (9223372036854775807 - (c - 48)) / 10 := by assumption
        have hle : n * 10 + (s[k].toNat - 48) ≤ maxI := by
          have h3 := HC.out
          have h4 := HU.out
          unfold maxI
          omega
        have HLE : Hid (n * 10 + (s[k].toNat - 48) ≤ maxI) := hle
        have HEQ : Hid (u * 10 + (c - 48) = ((n * 10 + (s[k].toNat - 48) : Nat) : Int)) := by
          show _ = _
          have h3 := HC.out
          have h4 := HU.out
          omega
        clear hle ht
        go_round
        case rel => exact ⟨k + 1, by omega, by go_num, n * 10 + (s[k].toNat - 48), by rw [HEQ.out], HLE.out, HV.out.symm⟩
        case measure => simp [intOf]; omega
    · have hke : k = s.size := by omega
      have HN' : Hid (n ≤ maxI ∧ n = val s.data.toList) := by
        have h := HN.out
        rw [hke, List.take_of_length_le (by rw [len_eq]; omega)] at h
        exact h
      have hd0 := dig_at HD.out 0 hp
      have h45 : ((s[0].toNat : Int) == 45) = false := by simp; omega
      clear HN hke hd0
      go_wp2
      go_ret2
      refine ⟨.inl ⟨?_, ?_⟩, (Below.refl _ _).alloc (Nat.le_refl _) _⟩
      · rw [← HN'.out.2]; exact HN'.out.1
      · rw [← HN'.out.2]; rfl

set_option maxHeartbeats 1000000 in
theorem zzunits_any (nm : ByteArray) (r : Int) (s : ByteArray) (w : World) (hs : s.size ≤ 1048576) (hp : 0 < s.size) (hd : Dig s.data.toList) :
    Calls Try.prog 8 #[.agg #[.string nm, .int .i32 0, .int .i64 r], .string s] w fun e w' => UnitsRes s.data.toList e ∧ Below w.heap.size w w' := by
  have HD : Hid (Dig s.data.toList) := hd
  clear hd
  go_enter Try.func8, Try.ntmps8
  go_wp2_with fail
  refine (units_any nm r s _ hs hp HD.out).mono ?_
  rintro e w1 ⟨hu, hb⟩
  have HB : Hid (Below w.heap.size w w1) := ((Below.refl _ _).alloc (Nat.le_refl _) _).trans (hb.mono (by simp))
  clear hb
  rcases hu with ⟨hv, rfl⟩ | ⟨hv, rfl⟩
  · have HV : Hid (val s.data.toList ≤ maxI) := hv
    clear hv
    go_wp2
    go_ret2
    exact ⟨.inl ⟨HV.out, rfl⟩, HB.out⟩
  · have HV : Hid (¬ val s.data.toList ≤ maxI) := hv
    clear hv
    go_wp2
    go_ret2
    exact ⟨.inr ⟨HV.out, rfl⟩, HB.out⟩
end Go.Proofs.Qxb6600163a
