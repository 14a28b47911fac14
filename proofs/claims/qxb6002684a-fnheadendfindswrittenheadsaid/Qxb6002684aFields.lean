import Derived.Test.Qxb6002684aOwn
namespace Go.Proofs.Qxb6002684a
open Go.RowKit
set_option linter.unusedSimpArgs false

def fieldCells (fs : List (ByteArray × ByteArray)) : List Value := fs.flatMap fun f => [.string f.1, .string f.2]
def lines (fs : List (ByteArray × ByteArray)) : List Value := fs.flatMap fun f => lineCells f.1 f.2
theorem fieldCells_at (fs : List (ByteArray × ByteArray)) : ∀ (k : Nat) (hk : k < fs.length), (fieldCells fs)[k * 2]? = some (.string fs[k].1) ∧ (fieldCells fs)[k * 2 + 1]? = some (.string fs[k].2) := by
  induction fs with
  | nil => intro k hk; simp at hk
  | cons f fs ih =>
    intro k hk
    match k, hk with
    | 0, _ => exact ⟨rfl, rfl⟩
    | k + 1, hk =>
      have := ih k (by simpa using hk)
      rw [show (k + 1) * 2 = k * 2 + 2 from by omega]
      simpa [fieldCells] using this
theorem lines_snoc (fs : List (ByteArray × ByteArray)) (k : Nat) (hk : k < fs.length) : lines (fs.take (k + 1)) = lines (fs.take k) ++ lineCells fs[k].1 fs[k].2 := by
  unfold lines
  rw [List.take_succ_eq_append_getElem hk, List.flatMap_append]
  simp
theorem lines_le (fs : List (ByteArray × ByteArray)) (k : Nat) : (lines (fs.take k)).length ≤ (lines fs).length := by
  have : lines fs = lines (fs.take k) ++ lines (fs.drop k) := by unfold lines; rw [← List.flatMap_append, List.take_append_drop]
  rw [this]; simp

set_option maxHeartbeats 1000000 in
theorem fields_any (B : Nat) (v : Value) (n : Nat) (xs : List Value) (fv : Value) (fs : List (ByteArray × ByteArray)) (w : World) (hB : B ≤ w.heap.size) (ho : w.ownsRow B 5 1 v n xs)
    (hf : w.ownsRow B 47 2 fv fs.length (fieldCells fs)) (hl : fs.length ≤ 1048576) (hn : n + (lines fs).length + 2 ≤ 1073741824) :
    Calls Try.prog 30 #[v, fv] w fun e w' => ∃ v', e = .returned v' ∧ w'.ownsRow B 5 1 v' (n + (lines fs).length + 2) (xs ++ lines fs ++ [.int .u8 13, .int .u8 10]) ∧ Below B w w' := by
  obtain ⟨i0, hi, hz0, hz1, hz2⟩ := info_parts Try.info5'
  have HO : Hid (w.ownsRow B 5 1 v n xs) := ho
  have HF : Hid (w.ownsRow B 47 2 fv fs.length (fieldCells fs)) := hf
  obtain ⟨ao, cap, rfl⟩ : ∃ ao cap, fv = .slice ao fs.length cap := by
    rcases hf.2 with ⟨rfl, h⟩ | ⟨g, cap, cur, rfl, _⟩
    · exact ⟨none, 0, by rw [h]⟩
    · exact ⟨_, _, rfl⟩
  have hao : ∀ k, k < fs.length → ∃ g, ao = some ⟨g, 0, none⟩ := by
    intro k hk
    rcases hf.2 with ⟨_, h⟩ | ⟨g, cap, cur, h, _⟩
    · omega
    · simp at h; exact ⟨g, h.1⟩
  have HA : Hid (∀ k, k < fs.length → ∃ g, ao = some ⟨g, 0, none⟩) := hao
  clear ho hf hao
  go_enter Try.func30, Try.ntmps30
  go_wp2_with fail
  go_loopw [0, 6, 9] (fun u _ i wr => ∃ k : Nat, k ≤ fs.length ∧ i = .int .i64 k ∧ wr.ownsRow B 5 1 u (n + (lines (fs.take k)).length) (xs ++ lines (fs.take k)) ∧ Keeps B w wr) (fun _ _ i _ => fs.length - (intOf i).toNat)
  case atStart => exact ⟨0, Nat.zero_le _, rfl, by simpa [lines] using HO.out, Keeps.refl _ _⟩
  case round =>
    obtain ⟨k, hk, rfl, ho, hkp⟩ := hrel
    have HR : Hid (wr.ownsRow B 5 1 u0 (n + (lines (fs.take k)).length) (xs ++ lines (fs.take k))) := ho
    have HK : Hid (Keeps B w wr) := hkp
    have hsz := hkp.size
    clear ho hkp
    by_cases hlt : k < fs.length
    · obtain ⟨g, rfl⟩ := HA.out k hlt
      have hF := HK.out.2 _ _ _ _ _ (by decide) HF.out
      have c0 := hF.cellAt (k * 2) (by omega)
      have c1 := hF.cellAt (k * 2 + 1) (by omega)
      rw [(fieldCells_at fs k hlt).1] at c0
      rw [(fieldCells_at fs k hlt).2] at c1
      have HL : Hid (lines (fs.take (k + 1)) = lines (fs.take k) ++ lineCells fs[k].1 fs[k].2) := lines_snoc fs k hlt
      have hle := lines_le fs (k + 1)
      have hll : (lines (fs.take (k + 1))).length = (lines (fs.take k)).length + (fs[k].1.size + fs[k].2.size + 4) := by rw [HL.out, List.length_append, lineCells_length]
      have hbd : n + (lines (fs.take k)).length + fs[k].1.size + fs[k].2.size + 4 ≤ 1073741824 := by omega
      have hle' := lines_le fs k
      clear hF hll hle
      obtain ⟨a, ha⟩ : ∃ a, fs[k].1 = a := ⟨_, rfl⟩
      obtain ⟨b, hb⟩ : ∃ a, fs[k].2 = a := ⟨_, rfl⟩
      rw [ha] at c0 hbd HL
      rw [hb] at c1 hbd HL
      clear ha hb
      go_wp2_with fail
      refine (field_any B u0 _ _ a b _ (by simp; omega) (HR.out.alloc _) hbd).mono ?_
      rintro e w' ⟨v', rfl, ho', hk'⟩
      have HO' : Hid _ := ho'
      have HK' : Hid (Keeps B w w') := (HK.out.alloc (by omega) _).trans hk'
      clear ho' hk'
      go_wp2
      go_roundw
      case rel =>
        refine ⟨k + 1, by omega, by go_num, ?_, HK'.out⟩
        have h := HO'.out
        rw [HL.out, ← List.append_assoc, List.length_append, ← Nat.add_assoc]
        exact h
      case measure => simp [intOf]; omega
    · have hke : k = fs.length := by omega
      have HR' : Hid (wr.ownsRow B 5 1 u0 (n + (lines fs).length) (xs ++ lines fs)) := by
        have h := HR.out
        rw [hke, List.take_length] at h
        exact h
      clear HR hke
      go_wp2_with (at_builtin; refine Lib.wpList_append_own_string _ rfl (.tmp 17) (.const (.string ⟨#[13, 10]⟩)) 29 9 rfl B 5 i0 Try.underlying29 Try.underlying9 hi hz0 hz1 hz2 u0 _ _ rfl HR'.out ⟨#[13, 10]⟩ rfl (by simp only [size_crlf, maxLen]; omega) (by simp only [size_crlf]; omega) (by omega) ?_; intro v4 w4 ho4 hg4 _; have HO4 : Hid _ := ho4; have HG4 : Hid _ := hg4; clear ho4 hg4)
      go_ret
      exact ⟨v4, rfl, HO4.out, (HK.out.grown HR'.out HG4.out (by omega)).1⟩
end Go.Proofs.Qxb6002684a
