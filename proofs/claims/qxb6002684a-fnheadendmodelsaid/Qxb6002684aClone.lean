import Derived.Test.Qxb6002684aRows
import Derived.WalkKit
import Derived.WalkSpells
import Derived.WalkLawsBesides
namespace Go.Proofs.Qxb6002684a
open Go.RowKit

theorem Try.info5 : (Try.prog.info? 5).map (fun i => (i.zero, i.size, i.bytes)) = some (some (.int .u8 0), 1, 1) := by kernel_rfl

set_option maxHeartbeats 400000 in
theorem clone_nil (w : World) :
    Calls Try.prog 16 #[.slice none 0 0] w fun e w' => e = .returned (.slice none 0 0) ∧ w' = w := by
  have hn := fun w a n c => Lib.run_eql_slice_nil (P := Try.prog) w 29 5 a n c 0 0 Try.underlying29
  go_enter Try.func16, Try.ntmps16
  go_wp2
  go_ret
  exact ⟨rfl, rfl⟩

set_option maxHeartbeats 400000 in
theorem clone_some (x : Addr) (len cap : Nat) (zs : List Int) (w : World) (hl : len ≤ 1048576) (hz : len ≤ zs.length)
    (hc : ∀ i, i < zs.length → w.cell? (x.add i) = some (.int .u8 (zs.getD i 0))) :
    Calls Try.prog 16 #[.slice (some x) len cap] w fun e w' => e = .returned (.slice (some ⟨w.heap.size, 0, none⟩) len len) ∧ Below w.heap.size w w' ∧ w.heap.size < w'.heap.size ∧
      ∀ i, i < len → w'.cell? ⟨w.heap.size, i, none⟩ = some (.int .u8 (zs.getD i 0)) := by
  obtain ⟨i0, hi, hz0, hz1, hz2⟩ := info_parts Try.info5
  have hn := fun w a n c => Lib.run_eql_slice_nil (P := Try.prog) w 29 5 a n c 0 0 Try.underlying29
  go_enter Try.func16, Try.ntmps16
  go_wp2_with (first | (at_make; refine wpList_make_full _ rfl _ _ 29 rfl w.heap.size 5 i0 _ 1 Try.underlying29 hi hz0 hz1 _ _ _ _ len rfl rfl rfl rfl (by rw [hz2]; omega) (by unfold maxLen; omega) (Nat.le_refl _) ?_; intro w1 hown hgrow))
  have hb1 : Below w.heap.size w w1 := (Below.refl _ _).grown hgrow (Nat.le_refl _) (by intro k h; cases h)
  go_loopw [4] (fun i wr => ∃ k : Nat, k ≤ len ∧ i = .int .i64 k ∧ Below w.heap.size w wr ∧ ∃ cs : List Value, wr.ownsRow w.heap.size 5 1 (.slice (some ⟨w.heap.size, 0, none⟩) len len) len cs ∧ ∀ j, j < k → cs[j]? = some (.int .u8 (zs.getD j 0))) (fun i _ => len - (intOf i).toNat)
  case atStart => exact ⟨0, Nat.zero_le _, rfl, hb1, _, hown, by omega⟩
  case round =>
    obtain ⟨k, hk, rfl, hb, cs, ho, hcs⟩ := hrel
    clear hown hgrow hb1
    by_cases hlt : k < len
    · have hxb : (x.add k).block < w.heap.size := block_lt_of_cell (hc k (by omega))
      have hcx : wr.cell? (x.add k) = some (.int .u8 (zs.getD k 0)) := by rw [hb.cell hxb]; exact hc k (by omega)
      have hlen : cs.length = len := by simpa using ho.1
      have hck := ho.cellAt k (by omega)
      have hfk := ho.frozenAt k
      obtain ⟨u, hu⟩ : ∃ u, cs[k]? = some u := ⟨cs[k]'(by omega), by simp⟩
      rw [hu] at hck
      have hst := ho.stored k (.int .u8 (zs.getD k 0))
      have HC : Hid (∀ j, j < k → cs[j]? = some (.int .u8 (zs.getD j 0))) := hcs
      have HS : Hid (wr.ownsRow w.heap.size 5 1 (.slice (some ⟨w.heap.size, 0, none⟩) len len) len cs) := ho
      have HT : Hid _ := hst
      clear hu hcs ho hst
      go_wp2
      go_roundw
      case rel =>
        refine ⟨k + 1, by omega, by go_num, hb.setCell (Nat.le_refl _) _, _, HT.out.1, fun j hj => ?_⟩
        by_cases hjk : j = k
        · subst hjk; simp [hlen, hlt]
        · rw [List.getElem?_set_ne (by omega)]; exact HC.out j (by omega)
      case measure => simp [intOf]; omega
    · have hke : k = len := by omega
      subst hke
      go_wp2
      go_ret
      have hlen : cs.length = k := by simpa using ho.1
      exact ⟨rfl, hb, (ho.lt _ rfl).2, fun i hi => by rw [ho.cellAt i (by omega)]; exact hcs i hi⟩
end Go.Proofs.Qxb6002684a
