import Derived.Test.Qxb6002684aRows
import Derived.Test.Qxb6002684aPlain
import Derived.WalkKit
import Derived.WalkSpells
import Derived.WalkLawsBesides
import Derived.Lib.BytesEntry
import Derived.Lib.IndexLaws
namespace Go.Proofs.Qxb6002684a
open Go.RowKit

/-- What 'bytes.IndexByte(.., LF)' answers. -/
def Found (ys : List Int) (j : Int) : Prop :=
  (j = -1 ∧ ∀ k, k < ys.length → ys.getD k 0 ≠ 10) ∨ ∃ n : Nat, j = n ∧ n < ys.length ∧ ys.getD n 0 = 10 ∧ ∀ k, k < n → ys.getD k 0 ≠ 10

theorem found_of (ys : List Int) (hw : ∀ k, k < ys.length → 0 ≤ ys.getD k 0 ∧ ys.getD k 0 ≤ 255) : Found ys (Lib.indexByte (Lib.bytesOf ys) 10) := by
  have key : ∀ k, k < ys.length → ((Lib.bytesOf ys)[k]? = some 10 ↔ ys.getD k 0 = 10) := by
    intro k hk
    have h := hw k hk
    simp only [Lib.bytesOf, List.getElem?_map, List.getElem?_eq_getElem hk, Option.map_some, Option.some.injEq, List.getD_eq_getElem?_getD, Option.getD_some] at h ⊢
    constructor
    · intro e
      have e2 := congrArg UInt8.toNat e
      simp at e2
      omega
    · intro e; rw [e]; rfl
  have hge := Lib.indexByte_ge (Lib.bytesOf ys) 10
  by_cases h : Lib.indexByte (Lib.bytesOf ys) 10 = -1
  · exact .inl ⟨h, fun k hk e => Lib.indexByte_none h k ((key k hk).2 e)⟩
  · obtain ⟨o, ho⟩ : ∃ o : Nat, Lib.indexByte (Lib.bytesOf ys) 10 = o := ⟨(Lib.indexByte (Lib.bytesOf ys) 10).toNat, by omega⟩
    obtain ⟨h1, h2⟩ := Lib.indexByte_some ho
    have hl : o < ys.length := by have := (List.getElem?_eq_some_iff.1 h1).1; simpa [Lib.bytesOf] using this
    exact .inr ⟨o, ho, hl, (key o hl).1 h1, fun k hk e => h2 k hk ((key k (by omega)).2 e)⟩

set_option maxHeartbeats 1000000 in
theorem idx_some (b o n c : Nat) (xs : List Int) (w : World) (hx : xs.length = n) (hw : ∀ k, k < xs.length → 0 ≤ xs.getD k 0 ∧ xs.getD k 0 ≤ 255)
    (hc : ∀ i, i < n → w.cell? ⟨b, o + i, none⟩ = some (.int .u8 (xs.getD i 0))) :
    Calls Try.prog 37 #[.slice (some ⟨b, o, none⟩) n c, .int .u8 10] w fun e w' => ∃ j, e = .returned (.int .i64 j) ∧ Found xs j ∧ w' = w := by
  go_enter Try.func37, Try.ntmps37
  go_wp2
  rw [run_callFunc_extern Try.func44 (by kernel_rfl) (by kernel_rfl) (by kernel_rfl) (e := Extern.BytealgIndexByte.indexByte) (by kernel_rfl), Lib.run_indexByteSlice w b o n c xs hx hc 10]
  simp only [Result.andThen]
  rw [Oper.upon_value]
  go_wp2
  go_ret
  exact ⟨_, rfl, found_of xs hw, rfl⟩

set_option maxHeartbeats 1000000 in
theorem idx_nil (w : World) :
    Calls Try.prog 37 #[.slice none 0 0, .int .u8 10] w fun e w' => e = .returned (.int .i64 (-1)) ∧ w' = w := by
  go_enter Try.func37, Try.ntmps37
  go_wp2
  rw [run_callFunc_extern Try.func44 (by kernel_rfl) (by kernel_rfl) (by kernel_rfl) (e := Extern.BytealgIndexByte.indexByte) (by kernel_rfl), Lib.run_indexByteNil w 0 0 10]
  simp only [Result.andThen]
  rw [Oper.upon_value]
  go_wp2
  go_ret
  exact ⟨rfl, rfl⟩
end Go.Proofs.Qxb6002684a
