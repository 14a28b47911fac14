import Derived.Test.Qxb6002684aStrs
import Derived.Test.Qxb6002684aFields
import Derived.RegionTactic
import Derived.Deep.RegionHeld3
namespace Go.Proofs.Qxb6002684a
open Go.RowKit
set_option linter.unusedSimpArgs false
set_option linter.unusedVariables false

theorem Try.info9 : (Try.prog.info? 9).map (fun i => (i.zero, i.size, i.bytes)) = some (some (.string ByteArray.empty), 1, 16) := by kernel_rfl
theorem Try.info47 : (Try.prog.info? 47).map (fun i => (i.zero, i.size, i.bytes)) = some (some (.agg #[.string ByteArray.empty, .string ByteArray.empty]), 2, 32) := by kernel_rfl

set_option maxHeartbeats 400000 in
theorem sclone_any (a : Option Addr) (cap : Nat) (ss : List ByteArray) (w : World) (h : Strs w a ss) (hl : ss.length ≤ 65536) :
    Calls Try.prog 23 #[.slice a ss.length cap] w fun e w' => ∃ a' cap', e = .returned (.slice a' ss.length cap') ∧ Strs w' a' ss ∧ Below w.heap.size w w' := by
  have hn := fun w a n c => Lib.run_eql_slice_nil (P := Try.prog) w 35 9 a n c 0 0 Try.underlying35
  have HS : Hid (Strs w a ss) := h
  clear h
  cases a with
  | none =>
    have he : ss = [] := by
      cases ss with
      | nil => rfl
      | cons s l => obtain ⟨x, hx, _⟩ := HS.out 0 (by simp); cases hx
    subst he
    go_enter Try.func23, Try.ntmps23
    go_wp2
    go_ret
    exact ⟨none, 0, rfl, fun i hi => by simp at hi, Below.refl _ _⟩
  | some x =>
    obtain ⟨i0, hi, hz0, hz1, hz2⟩ := info_parts Try.info9
    go_enter Try.func23, Try.ntmps23
    go_wp2_with (first | (at_make; refine wpList_make_full _ rfl _ _ 35 rfl w.heap.size 9 i0 _ 1 Try.underlying35 hi hz0 hz1 _ _ _ _ ss.length rfl rfl rfl rfl (by rw [hz2]; omega) (by unfold maxLen; omega) (Nat.le_refl _) ?_; intro w1 hown hgrow))
    have hb1 : Below w.heap.size w w1 := (Below.refl _ _).grown hgrow (Nat.le_refl _) (by intro k h; cases h)
    go_loopw [4] (fun i wr => ∃ k : Nat, k ≤ ss.length ∧ i = .int .i64 k ∧ Below w.heap.size w wr ∧ ∃ cs : List Value, wr.ownsRow w.heap.size 9 1 (.slice (some ⟨w.heap.size, 0, none⟩) ss.length ss.length) ss.length cs ∧ ∀ j, j < k → cs[j]? = some (.string (ss.getD j ByteArray.empty))) (fun i _ => ss.length - (intOf i).toNat)
    case atStart => exact ⟨0, Nat.zero_le _, rfl, hb1, _, hown, by omega⟩
    case round =>
      obtain ⟨k, hk, rfl, hb, cs, ho, hcs⟩ := hrel
      clear hown hgrow hb1
      by_cases hlt : k < ss.length
      · obtain ⟨x', hx', hc⟩ := HS.out k hlt
        cases hx'
        have hxb : (x.add k).block < w.heap.size := block_lt_of_cell hc
        have hcx : wr.cell? (x.add k) = some (.string (ss.getD k ByteArray.empty)) := by rw [hb.cell hxb]; exact hc
        have hlen : cs.length = ss.length := by simpa using ho.1
        have hck := ho.cellAt k (by omega)
        have hfk := ho.frozenAt k
        obtain ⟨u, hu⟩ : ∃ u, cs[k]? = some u := ⟨cs[k]'(by omega), by simp⟩
        rw [hu] at hck
        obtain ⟨s, hs⟩ : ∃ s, ss.getD k ByteArray.empty = s := ⟨_, rfl⟩
        have HSS : Hid (ss.getD k ByteArray.empty = s) := hs
        rw [hs] at hcx
        have HC : Hid (∀ j, j < k → cs[j]? = some (.string (ss.getD j ByteArray.empty))) := hcs
        have HT : Hid ((wr.setCell ⟨w.heap.size, k, none⟩ (.string s)).ownsRow w.heap.size 9 1 (.slice (some ⟨w.heap.size, 0, none⟩) ss.length ss.length) ss.length (cs.set k (.string s))) := (ho.stored k _).1
        clear hu hcs ho hc hs
        go_wp2
        go_roundw
        case rel =>
          refine ⟨k + 1, by omega, by go_num, hb.setCell (Nat.le_refl _) _, _, HT.out, fun j hj => ?_⟩
          by_cases hjk : j = k
          · subst hjk; rw [HSS.out]; simp [hlen, hlt]
          · rw [List.getElem?_set_ne (by omega)]; exact HC.out j (by omega)
        case measure => simp [intOf]; omega
      · have hke : k = ss.length := by omega
        subst hke
        go_wp2
        go_ret
        exact ⟨_, _, rfl, fun i hi => ⟨_, rfl, by rw [show (⟨w.heap.size, 0, none⟩ : Addr).add i = ⟨w.heap.size, i, none⟩ from by rw [Addr.add_lit]; simp, ho.cellAt i (by omega)]; exact hcs i hi⟩, hb⟩

theorem below_grown {w w' : World} (h : Below w.heap.size w w') : w.grownBy w' none := ⟨h.os, h.tape, h.output, h.size, fun k hk _ => h.block k hk⟩

theorem fieldCells_length (fs : List (ByteArray × ByteArray)) : (fieldCells fs).length = fs.length * 2 := by
  induction fs with
  | nil => rfl
  | cons f fs ih => simp [fieldCells] at ih ⊢; omega
theorem cells_eq {cs : List Value} {ss ts : List ByteArray} (hl : cs.length = ss.length * 2) (he : ss.length = ts.length)
    (h : ∀ j, j < ss.length → cs[j * 2]? = some (.string (ss.getD j ByteArray.empty)) ∧ cs[j * 2 + 1]? = some (.string (ts.getD j ByteArray.empty))) : cs = fieldCells (ss.zip ts) := by
  have hz : (ss.zip ts).length = ss.length := by rw [List.length_zip]; omega
  apply List.ext_getElem?
  intro i
  by_cases hi : i < ss.length * 2
  · obtain ⟨j, hj⟩ : ∃ j, i = j * 2 ∨ i = j * 2 + 1 := ⟨i / 2, by omega⟩
    have hjl : j < ss.length := by omega
    have h1 := h j hjl
    have h2 := fieldCells_at (ss.zip ts) j (by omega)
    have e1 : ss.getD j ByteArray.empty = (ss.zip ts)[j].1 := by simp [List.getD_eq_getElem?_getD, hjl]
    have e2 : ts.getD j ByteArray.empty = (ss.zip ts)[j].2 := by simp [List.getD_eq_getElem?_getD, ← he, hjl]
    rcases hj with rfl | rfl
    · rw [h1.1, h2.1, e1]
    · rw [h1.2, h2.2, e2]
  · rw [List.getElem?_eq_none (by omega), List.getElem?_eq_none (by rw [fieldCells_length]; omega)]

set_option maxHeartbeats 400000 in
theorem build_any (B : Nat) (a : Option Addr) (cap : Nat) (ss : List ByteArray) (a2 : Option Addr) (cap2 : Nat) (ts : List ByteArray) (w : World) (hB : B ≤ w.heap.size) (h : Strs w a ss) (h2 : Strs w a2 ts) (hl : ss.length ≤ 65536) (he : ss.length = ts.length) :
    Calls Try.prog 25 #[.slice a ss.length cap, .slice a2 ts.length cap2] w fun e w' => ∃ fv, e = .returned fv ∧ w'.ownsRow B 47 2 fv (ss.zip ts).length (fieldCells (ss.zip ts)) ∧ Below w.heap.size w w' := by
  have hn := fun w a n c => Lib.run_eql_slice_nil (P := Try.prog) w 35 9 a n c 0 0 Try.underlying35
  have HS : Hid (Strs w a ss) := h
  have HS2 : Hid (Strs w a2 ts) := h2
  have HE : Hid (ss.length = ts.length) := he
  clear h h2
  cases a with
  | none =>
    have he : ss = [] := by
      cases ss with
      | nil => rfl
      | cons s l => obtain ⟨x, hx, _⟩ := HS.out 0 (by simp); cases hx
    subst he
    go_enter Try.func25, Try.ntmps25
    go_wp2
    go_ret
    exact ⟨_, rfl, World.ownsRow_nil w B 47 2, Below.refl _ _⟩
  | some x =>
    obtain ⟨i0, hi, hz0, hz1, hz2⟩ := info_parts Try.info47
    clear he
    go_enter Try.func25, Try.ntmps25
    go_wp2_with (first | (at_make; refine wpList_make_full _ rfl _ _ 41 rfl B 47 i0 _ 2 Try.underlying41 hi hz0 hz1 _ _ _ _ ss.length rfl rfl rfl rfl (by rw [hz2]; omega) (by unfold maxLen; omega) hB ?_; intro w1 hown hgrow))
    have hb1 : Below w.heap.size w w1 := (Below.refl _ _).grown hgrow (Nat.le_refl _) (by intro k h; cases h)
    go_loopw [6] (fun i wr => ∃ k : Nat, k ≤ ss.length ∧ i = .int .i64 k ∧ Below w.heap.size w wr ∧ ∃ cs : List Value, wr.ownsRow B 47 2 (.slice (some ⟨w.heap.size, 0, none⟩) ss.length ss.length) ss.length cs ∧ ∀ j, j < k → cs[j * 2]? = some (.string (ss.getD j ByteArray.empty)) ∧ cs[j * 2 + 1]? = some (.string (ts.getD j ByteArray.empty))) (fun i _ => ss.length - (intOf i).toNat)
    case atStart => exact ⟨0, Nat.zero_le _, rfl, hb1, _, hown, by omega⟩
    case round =>
      obtain ⟨k, hk, rfl, hb, cs, ho, hcs⟩ := hrel
      clear hown hgrow hb1
      by_cases hlt : k < ss.length
      · obtain ⟨x', hx', hc⟩ := HS.out k hlt
        cases hx'
        obtain ⟨y, rfl, hd⟩ := HS2.out k (by have := HE.out; omega)
        have hxb : (x.add k).block < w.heap.size := block_lt_of_cell hc
        have hyb : (y.add k).block < w.heap.size := block_lt_of_cell hd
        have hcx : wr.cell? (x.add k) = some (.string (ss.getD k ByteArray.empty)) := by rw [hb.cell hxb]; exact hc
        have hdx : wr.cell? (y.add k) = some (.string (ts.getD k ByteArray.empty)) := by rw [hb.cell hyb]; exact hd
        obtain ⟨s, hs⟩ : ∃ s, ss.getD k ByteArray.empty = s := ⟨_, rfl⟩
        obtain ⟨t, ht⟩ : ∃ s, ts.getD k ByteArray.empty = s := ⟨_, rfl⟩
        have HSS : Hid (ss.getD k ByteArray.empty = s) := hs
        have HTT : Hid (ts.getD k ByteArray.empty = t) := ht
        rw [hs] at hcx
        rw [ht] at hdx
        have hlen : cs.length = ss.length * 2 := ho.1
        have hck := ho.cellAt (k * 2) (by omega)
        have hck' := ho.cellAt (k * 2 + 1) (by omega)
        have hfk := ho.frozenAt (k * 2)
        have hfk' := ho.frozenAt (k * 2 + 1)
        obtain ⟨u, hu⟩ : ∃ u, cs[k * 2]? = some u := ⟨cs[k * 2]'(by omega), by simp⟩
        obtain ⟨u', hu'⟩ : ∃ u, cs[k * 2 + 1]? = some u := ⟨cs[k * 2 + 1]'(by omega), by simp⟩
        rw [hu] at hck
        rw [hu'] at hck'
        have HC : Hid (∀ j, j < k → cs[j * 2]? = some (.string (ss.getD j ByteArray.empty)) ∧ cs[j * 2 + 1]? = some (.string (ts.getD j ByteArray.empty))) := hcs
        have HO : Hid (wr.ownsRow B 47 2 (.slice (some ⟨w.heap.size, 0, none⟩) ss.length ss.length) ss.length cs) := ho
        have HB : Hid (Below w.heap.size w wr) := hb
        have hkt : k < ts.length := by have := HE.out; omega
        have hxo : ∀ (W : World) (o : Nat) (v : Value), (W.setCell ⟨w.heap.size, o, none⟩ v).cell? (x.add k) = W.cell? (x.add k) := fun W o v => World.cell?_setCell_other W _ _ v (fun h => by rw [← h] at hxb; simp at hxb)
        have hyo : ∀ (W : World) (o : Nat) (v : Value), (W.setCell ⟨w.heap.size, o, none⟩ v).cell? (y.add k) = W.cell? (y.add k) := fun W o v => World.cell?_setCell_other W _ _ v (fun h => by rw [← h] at hyb; simp at hyb)
        clear hu hu' hcs ho hc hd hb hs ht hxb hyb hlen
        go_wp2_with fail
        go_region_held3 (fun w' => w'.cell? (x.add k) = some (.string s) ∧ w'.cell? (y.add k) = some (.string t)) (go_keep) (fail)
        go_wp2
        go_roundw
        case rel =>
          have h2 := ((HO.out.stored (k * 2) (.string s)).1.stored (k * 2 + 1) (.string t)).1
          refine ⟨k + 1, by omega, by go_num, ((HB.out.setCell (Nat.le_refl _) _).setCell (Nat.le_refl _) _).drew, _, h2, fun j hj => ?_⟩
          have hlen : cs.length = ss.length * 2 := HO.out.1
          by_cases hjk : j = k
          · subst hjk
            rw [HSS.out, HTT.out]
            refine ⟨?_, ?_⟩
            · rw [List.getElem?_set_ne (by omega), List.getElem?_set_self (by omega)]
            · rw [List.getElem?_set_self (by rw [List.length_set]; omega)]
          · rw [List.getElem?_set_ne (by omega), List.getElem?_set_ne (by omega), List.getElem?_set_ne (by omega), List.getElem?_set_ne (by omega)]
            exact HC.out j (by omega)
        case measure => simp [intOf]; omega
      · have hke : k = ss.length := by omega
        subst hke
        have HC : Hid _ := hcs
        have HO : Hid _ := ho
        have HB : Hid _ := hb
        clear hcs ho hb
        go_wp2
        go_ret
        refine ⟨_, rfl, ?_, HB.out⟩
        have hz : (ss.zip ts).length = ss.length := by rw [List.length_zip]; have := HE.out; omega
        have hcs : cs = fieldCells (ss.zip ts) := cells_eq HO.out.1 HE.out HC.out
        rw [hz, ← hcs]
        exact HO.out
end Go.Proofs.Qxb6002684a
