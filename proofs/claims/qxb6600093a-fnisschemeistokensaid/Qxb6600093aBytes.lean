import Derived.Test.Qxb6600093aRows
import Derived.Test.Qxb6600093aPlain
import Derived.WalkKit
import Derived.WalkSpells
import Derived.WalkLawsBesides
namespace Go.Proofs.Qxb6600093a
open Go.RowKit
set_option linter.unusedSimpArgs false
set_option linter.unusedVariables false

theorem ret_bool {a b : Bool} (h : a = b) : Ending.returned (.bool a) = .returned (.bool b) := by rw [h]
theorem ret_int {k : IntKind} {a b : Int} (h : a = b) : Ending.returned (.int k a) = .returned (.int k b) := by rw [h]

set_option maxHeartbeats 1000000 in
theorem idx_any (s : ByteArray) (c : Int) (w : World) :
    Calls Try.prog 33 #[.string s, .int .u8 c] w fun e w' => e = .returned (.int .i64 (Lib.indexByte s.data.toList c.toNat.toUInt8)) ∧ w' = w := by
  go_enter Try.func33, Try.ntmps33
  go_wp2
  rw [run_callFunc_extern Try.func35 (by kernel_rfl) (by kernel_rfl) (by kernel_rfl) (e := Extern.BytealgIndexByte.indexByte) (by kernel_rfl), Lib.run_indexByteString s c w]
  simp only [Result.andThen]
  rw [Oper.upon_value]
  go_wp2
  go_ret
  exact ⟨rfl, rfl⟩

set_option maxHeartbeats 1000000 in
theorem tok_any (c : Int) (h0 : 0 ≤ c) (h1 : c ≤ 255) (w : World) :
    Calls Try.prog 29 #[.int .u8 c] w fun e w' => e = .returned (.bool (tokB c)) ∧ w' = w := by
  go_enter Try.func29, Try.ntmps29
  go_wp2_with (go_at_call 33; refine (idx_any _ _ _).mono ?_; rintro e w' ⟨rfl, rfl⟩)
  all_goals
    go_ret
    refine ⟨ret_bool ?_, rfl⟩
    first | (simp [tokB, lowB, upB, digB, marks, *]; done) | (simp [tokB, lowB, upB, digB, marks, *]; intro h; omega)

set_option maxHeartbeats 1000000 in
theorem tchar_any (c : Int) (h0 : 0 ≤ c) (h1 : c ≤ 255) (w : World) :
    Calls Try.prog 30 #[.int .u8 c] w fun e w' => e = .returned (.bool (tokB c)) ∧ w' = w := by
  have ht := tchar_tok h0 h1
  have HT : Hid (tcharB c = tokB c) := ht
  clear ht
  go_enter Try.func30, Try.ntmps30
  go_wp2
  all_goals
    go_ret
    refine ⟨ret_bool ?_, rfl⟩
    rw [← HT.out]
    unfold tcharB
    clear HT
    first | (simp_all; done) | (simp_all; omega)
end Go.Proofs.Qxb6600093a
