import Derived.Test.Qxb6600163aDigits
namespace Go.Proofs.Qxb6600163a
open Go.RowKit
set_option linter.unusedSimpArgs false
set_option linter.unusedVariables false

set_option maxHeartbeats 1000000 in
theorem trim_any (s : ByteArray) (w : World) (hs : s.size ≤ 1048576) (hp : 0 < s.size) (hd : Dig s.data.toList) :
    Calls Try.prog 18 #[.string s, .string ⟨#[45]⟩] w fun e w' => e = .returned (.string s) ∧ w' = w := by
  have h1 := no_dash hd hp
  have h2 : (1 : Int) ≤ (s.size : Int) := by omega
  have h3 : (⟨#[45]⟩ : ByteArray).toList = [45] := by rw [ByteArray.toList_eq]
  have h4 : (⟨#[45]⟩ : ByteArray).size = 1 := rfl
  clear hd
  go_enter Try.func18, Try.ntmps18
  go_wp2
  go_ret
  exact ⟨rfl, rfl⟩

set_option maxHeartbeats 1000000 in
theorem idx_any (s : ByteArray) (c : Int) (w : World) :
    Calls Try.prog 23 #[.string s, .int .u8 c] w fun e w' => e = .returned (.int .i64 (Lib.indexByte s.data.toList c.toNat.toUInt8)) ∧ w' = w := by
  go_enter Try.func23, Try.ntmps23
  go_wp2
  rw [run_callFunc_extern Try.func27 (by kernel_rfl) (by kernel_rfl) (by kernel_rfl) (e := Extern.BytealgIndexByte.indexByte) (by kernel_rfl), Lib.run_indexByteString s c w]
  simp only [Result.andThen]
  rw [Oper.upon_value]
  go_wp2
  go_ret
  exact ⟨rfl, rfl⟩

theorem idx_dot (s : ByteArray) (c : Int) (hc : c = 46) (hd : Dig s.data.toList) (w : World) :
    Calls Try.prog 23 #[.string s, .int .u8 c] w fun e w' => e = .returned (.int .i64 (-1)) ∧ w' = w := by
  subst hc
  refine (idx_any s 46 w).mono ?_
  rintro e w' ⟨rfl, rfl⟩
  have h : Lib.indexByte s.data.toList (46 : Int).toNat.toUInt8 = -1 := no_dot hd
  rw [h]
  exact ⟨rfl, rfl⟩

set_option maxHeartbeats 1000000 in
theorem index_dot (s : ByteArray) (w : World) (hs : s.size ≤ 1048576) (hd : Dig s.data.toList) :
    Calls Try.prog 21 #[.string s, .string ⟨#[46]⟩] w fun e w' => e = .returned (.int .i64 (-1)) ∧ w' = w := by
  have h1 := not_dot hd
  have h3 : (⟨#[46]⟩ : ByteArray).toList = [46] := by rw [ByteArray.toList_eq]
  have h4 : (⟨#[46]⟩ : ByteArray).size = 1 := rfl
  have HD : Hid (Dig s.data.toList) := hd
  clear hd
  go_enter Try.func21, Try.ntmps21
  go_wp2_with fail
  refine (idx_dot s _ rfl HD.out w).mono ?_
  rintro e w' ⟨rfl, hw⟩
  obtain rfl := hw.symm
  go_wp2
  go_ret
  exact ⟨rfl, rfl⟩

set_option maxHeartbeats 1000000 in
theorem litecut_any (s : ByteArray) (w : World) (hs : s.size ≤ 1048576) (hd : Dig s.data.toList) :
    Calls Try.prog 19 #[.string s, .string ⟨#[46]⟩] w fun e w' => e = .returned (.tuple #[.string s, .string ⟨#[]⟩, .bool false]) ∧ w' = w := by
  have HD : Hid (Dig s.data.toList) := hd
  clear hd
  go_enter Try.func19, Try.ntmps19
  go_wp2_with (go_at_call 21; refine (index_dot s _ hs HD.out).mono ?_; rintro e w' ⟨rfl, rfl⟩)
  go_ret3
  exact ⟨rfl, rfl⟩

set_option maxHeartbeats 1000000 in
theorem cut_any (s : ByteArray) (w : World) (hs : s.size ≤ 1048576) (hd : Dig s.data.toList) :
    Calls Try.prog 17 #[.string s, .string ⟨#[46]⟩] w fun e w' => e = .returned (.tuple #[.string s, .string ⟨#[]⟩, .bool false]) ∧ w' = w := by
  have HD : Hid (Dig s.data.toList) := hd
  clear hd
  go_enter Try.func17, Try.ntmps17
  go_wp2_with (go_at_call 19; refine (litecut_any s _ hs HD.out).mono ?_; rintro e w' ⟨rfl, rfl⟩)
  go_ret3
  exact ⟨rfl, rfl⟩
end Go.Proofs.Qxb6600163a
