import Derived.Test.Qxb6002684aStrs
import Derived.Test.Qxb6002684aBuild
import Derived.Test.Qxb6002684aHead
import Derived.Test.Qxb6002684aWritten
namespace Go.Proofs.Qxb6002684a
open Go.RowKit
set_option linter.unusedSimpArgs false
set_option linter.unusedVariables false

theorem Strs.below {w w' : World} {a : Option Addr} {ss : List ByteArray} (h : Strs w a ss) {B : Nat} (hB : w.heap.size ≤ B) (hb : Below B w w') : Strs w' a ss := by
  intro i hi
  obtain ⟨x, rfl, hc⟩ := h i hi
  have hx := block_lt_of_cell hc
  exact ⟨x, rfl, by rw [hb.cell (by omega)]; exact hc⟩

def bI (s : ByteArray) : List Int := s.data.toList.map fun b => (b.toNat : Int)
theorem strCells_bI (s : ByteArray) : Lib.strCells s = (bI s).map (Value.int .u8) := by simp [Lib.strCells, bI]
theorem bI_length (s : ByteArray) : (bI s).length = s.size := by simp [bI]
theorem bI_byte (s : ByteArray) : ∀ x ∈ bI s, 0 ≤ x ∧ x ≤ 255 := by
  intro x hx
  simp only [bI, List.mem_map] at hx
  obtain ⟨b, _, rfl⟩ := hx
  have := b.toNat_lt
  omega
theorem bI_no {s : ByteArray} (h : NoLF s) : ∀ x ∈ bI s, x ≠ 10 := by
  intro x hx
  simp only [bI, List.mem_map] at hx
  obtain ⟨b, hb, rfl⟩ := hx
  obtain ⟨i, hi, rfl⟩ := List.getElem_of_mem hb
  exact h i (by simpa using hi)
theorem bI_take (s : ByteArray) (k : Nat) (hk : k < s.size) : (Lib.strCells s).take (k + 1) = (Lib.strCells s).take k ++ [.int .u8 (s[k].toNat : Int)] := by
  rw [List.take_succ_eq_append_getElem (by rw [Lib.strCells_length]; exact hk)]
  simp [Lib.strCells]
  rfl

def body (f : ByteArray × ByteArray) : List Int := bI f.1 ++ [58, 32] ++ bI f.2
def headI (s : ByteArray) (fs : List (ByteArray × ByteArray)) : List Int := bI s ++ [13, 10] ++ (fs.map body).flatMap (· ++ [13, 10]) ++ [13, 10]
theorem lines_ints (fs : List (ByteArray × ByteArray)) : lines fs = ((fs.map body).flatMap (· ++ [13, 10])).map (Value.int .u8) := by
  induction fs with
  | nil => rfl
  | cons f fs ih =>
    have e : lines (f :: fs) = lineCells f.1 f.2 ++ lines fs := by simp [lines]
    rw [e, ih, List.map_cons, List.flatMap_cons, List.map_append]
    congr 1
    simp [lineCells, body, strCells_bI]
theorem head_ints (s : ByteArray) (fs : List (ByteArray × ByteArray)) : Lib.strCells s ++ [.int .u8 13, .int .u8 10] ++ lines fs ++ [.int .u8 13, .int .u8 10] = (headI s fs).map (Value.int .u8) := by
  rw [lines_ints, strCells_bI]
  simp [headI]
theorem head_len (s : ByteArray) (fs : List (ByteArray × ByteArray)) : (headI s fs).length = s.size + 2 + (lines fs).length + 2 := by
  have h := congrArg List.length (head_ints s fs)
  simp only [List.length_append, List.length_map, Lib.strCells_length, List.length_cons, List.length_nil] at h
  omega
theorem headI_byte (s : ByteArray) (fs : List (ByteArray × ByteArray)) : ∀ x ∈ headI s fs, 0 ≤ x ∧ x ≤ 255 := by
  intro x hx
  simp only [headI, List.mem_append, List.mem_flatMap, List.mem_map, body] at hx
  rcases hx with ((h | h) | ⟨d, ⟨f, _, rfl⟩, h⟩) | h
  · exact bI_byte s x h
  · simp at h; omega
  · simp only [List.mem_append] at h
    rcases h with ((h | h) | h) | h
    · exact bI_byte _ x h
    · simp at h; omega
    · exact bI_byte _ x h
    · simp at h; omega
  · simp at h; omega
theorem headI_end (s : ByteArray) (ss ts : List ByteArray) (h0 : NoLF s) (h1 : ∀ i, i < ss.length → NoLF (ss.getD i ByteArray.empty)) (h2 : ∀ i, i < ts.length → NoLF (ts.getD i ByteArray.empty)) :
    hE (headI s (ss.zip ts)) = some (headI s (ss.zip ts)).length := by
  refine hE_whole _ _ (bI_no h0) ?_
  intro d hd
  simp only [List.mem_map] at hd
  obtain ⟨⟨f, g⟩, hf, rfl⟩ := hd
  have hm := List.of_mem_zip hf
  have n1 : NoLF f := by
    obtain ⟨i, hi, rfl⟩ := List.getElem_of_mem hm.1
    have := h1 i hi
    simpa [List.getD_eq_getElem?_getD, hi] using this
  have n2 : NoLF g := by
    obtain ⟨i, hi, rfl⟩ := List.getElem_of_mem hm.2
    have := h2 i hi
    simpa [List.getD_eq_getElem?_getD, hi] using this
  refine ⟨by simp [body], fun x hx => ?_⟩
  simp only [body, List.mem_append] at hx
  rcases hx with (h | h) | h
  · exact bI_no n1 x h
  · simp at h; omega
  · exact bI_no n2 x h
theorem lines_len : ∀ (ss ts : List ByteArray), (lines (ss.zip ts)).length ≤ tot ss + tot ts
  | [], ts => by simp [lines]
  | ss, [] => by simp [lines]
  | s :: ss, t :: ts => by
    have ih := lines_len ss ts
    have e : lines ((s :: ss).zip (t :: ts)) = lineCells s t ++ lines (ss.zip ts) := by simp [lines]
    rw [e, List.length_append, lineCells_length]
    simp only [tot, List.map_cons, List.sum_cons] at ih ⊢
    omega

set_option maxHeartbeats 1000000 in
theorem zzfields_any (B : Nat) (v : Value) (n : Nat) (xs : List Value) (fv : Value) (fs : List (ByteArray × ByteArray)) (w : World) (hB : B ≤ w.heap.size) (ho : w.ownsRow B 5 1 v n xs)
    (hf : w.ownsRow B 47 2 fv fs.length (fieldCells fs)) (hl : fs.length ≤ 1048576) (hn : n + (lines fs).length + 2 ≤ 1073741824) :
    Calls Try.prog 24 #[v, fv] w fun e w' => ∃ v', e = .returned v' ∧ w'.ownsRow B 5 1 v' (n + (lines fs).length + 2) (xs ++ lines fs ++ [.int .u8 13, .int .u8 10]) ∧ Below B w w' := by
  have H : Hid _ := fields_any B v n xs fv fs w hB ho hf hl hn
  clear ho hf
  go_enter Try.func24, Try.ntmps24
  go_wp2_with fail
  refine Calls.mono H.out ?_
  rintro e w' ⟨v', rfl, ho, hb⟩
  have HO : Hid _ := ho
  have HB : Hid _ := hb
  clear ho hb
  go_wp2
  go_ret
  exact ⟨v', rfl, HO.out, HB.out⟩
end Go.Proofs.Qxb6002684a
