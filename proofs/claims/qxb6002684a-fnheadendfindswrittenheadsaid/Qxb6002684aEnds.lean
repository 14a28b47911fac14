import Derived.Test.Qxb6002684aRows
import Derived.Test.Qxb6002684aPlain
import Derived.WalkKit
import Derived.WalkSpells
import Derived.WalkLawsBesides
namespace Go.Proofs.Qxb6002684a
open Go.RowKit

theorem ret_bool {a b : Bool} (h : a = b) : Ending.returned (.bool a) = .returned (.bool b) := by rw [h]
def endsB (xs : List Int) (m : Nat) : Bool :=
  (decide (2 ≤ m) && xs.getD (m - 2) 0 == 10 && xs.getD (m - 1) 0 == 10) || (decide (3 ≤ m) && xs.getD (m - 3) 0 == 10 && xs.getD (m - 2) 0 == 13 && xs.getD (m - 1) 0 == 10)
theorem endsB_iff (xs : List Int) (m : Nat) : endsB xs m = true ↔ Ends xs m := by
  unfold endsB Ends
  simp only [Bool.or_eq_true, Bool.and_eq_true, decide_eq_true_eq, beq_iff_eq, and_assoc]

set_option maxHeartbeats 400000 in
theorem ends_any (b n cap m : Nat) (xs : List Int) (w : World) (hn : n ≤ 1048576) (hm2 : 2 ≤ m) (hmn : m ≤ n)
    (hc : ∀ i, i < n → w.cell? ⟨b, i, none⟩ = some (.int .u8 (xs.getD i 0))) :
    Calls Try.prog 17 #[.slice (some ⟨b, 0, none⟩) n cap, .int .i64 m] w fun e w' => e = .returned (.bool (endsB xs m)) ∧ w' = w := by
  have c1 := hc (m - 1) (by omega)
  have c2 := hc (m - 2) (by omega)
  have c3 := hc (m - 3) (by omega)
  clear hc
  go_enter Try.func17, Try.ntmps17
  go_wp2
  all_goals
    go_ret
    refine ⟨ret_bool ?_, rfl⟩
    unfold endsB
    simp only [List.getD_eq_getElem?_getD]
    by_cases h3 : 3 ≤ m
    all_goals first | omega | (simp_all; done) | (simp_all; omega)

end Go.Proofs.Qxb6002684a
