import Derived.Test.Qxb6600093aLoops
namespace Go.Proofs.Qxb6600093a
open Go.RowKit
set_option linter.unusedSimpArgs false
set_option linter.unusedVariables false

/-- What '[]byte(key)' has laid, and what k rounds have made of it. -/
def CanTo (s : ByteArray) (N k : Nat) (wr : World) : Prop :=
  (∀ j, j < s.size → wr.cell? ⟨N, j, none⟩ = some (.int .u8 ((if j < k then step (up s.data.toList j) (s.data.toList.getD j 0) else s.data.toList.getD j 0).toNat : Int))) ∧ ∀ j, j < s.size → wr.frozen? ⟨N, j, none⟩ = false

theorem ret_string {a b : List UInt8} (h : a = b) : Ending.returned (.string ⟨a.toArray⟩) = .returned (.string ⟨b.toArray⟩) := by rw [h]
def stepI (u : Bool) (c : Int) : Int := if u && lowB c then c - 32 else if !u && upB c then c + 32 else c
theorem step_int' (u : Bool) (c : UInt8) : (((step u c).toNat : Int) == stepI u (c.toNat : Int)) = true := by
  revert c
  apply byte_cases
  cases u <;> decide +kernel
theorem step_int (u : Bool) (c : UInt8) : ((step u c).toNat : Int) = stepI u (c.toNat : Int) := eq_of_beq (step_int' u c)
theorem up_succ' (c : UInt8) : ((c == 45) == ((c.toNat : Int) == 45)) = true := by
  revert c
  apply byte_cases
  decide +kernel
theorem up_succ (l : List UInt8) (k : Nat) : up l (k + 1) = (((l.getD k 0).toNat : Int) == 45) := by
  have h := eq_of_beq (up_succ' (l.getD k 0))
  unfold up
  rw [← h]
  simp

theorem stepI_up {c : Int} (h : 97 ≤ c) (h' : c ≤ 122) : c - 97 + 65 = stepI true c := by
  simp [stepI, lowB, h, h']; omega
theorem stepI_down {c : Int} (h : 65 ≤ c) (h' : c ≤ 90) : c - 65 + 97 = stepI false c := by
  simp [stepI, upB, h, h']; omega
theorem stepI_keep {u : Bool} {c : Int} (h1 : u = true → c < 97 ∨ 122 < c) (h2 : u = false → c < 65 ∨ 90 < c) : c = stepI u c := by
  cases u
  · have := h2 rfl
    have e : upB c = false := by unfold upB; simp; omega
    simp [stepI, e]
  · have := h1 rfl
    have e : lowB c = false := by unfold lowB; simp; omega
    simp [stepI, e]
theorem canTo_put {s : ByteArray} {N k : Nat} {wr : World} (h : CanTo s N k wr) (hk : k < s.size) {v : Int} (hv : v = stepI (up s.data.toList k) ((s.data.toList.getD k 0).toNat : Int)) : CanTo s N (k + 1) (wr.setCell ⟨N, k, none⟩ (.int .u8 v)) := by
  refine ⟨fun j hj => ?_, fun j hj => by rw [World.frozen?_setCell]; exact h.2 j hj⟩
  by_cases e : j = k
  · subst e
    rw [World.cell?_setCell_same _ _ _ (h.1 j hj), if_pos (by omega), step_int, hv]
  · rw [World.cell?_setCell_other _ _ _ _ (fun h => e (by simpa using h.symm)), h.1 j hj]
    by_cases hjk : j < k
    · rw [if_pos hjk, if_pos (by omega)]
    · rw [if_neg hjk, if_neg (by omega)]
theorem canTo_keep {s : ByteArray} {N k : Nat} {wr : World} (h : CanTo s N k wr) (hk : k < s.size) (hv : ((s.data.toList.getD k 0).toNat : Int) = stepI (up s.data.toList k) ((s.data.toList.getD k 0).toNat : Int)) : CanTo s N (k + 1) wr := by
  refine ⟨fun j hj => ?_, h.2⟩
  rw [h.1 j hj]
  by_cases e : j = k
  · subst e
    rw [if_neg (by omega), if_pos (by omega), step_int, ← hv]
  · by_cases hjk : j < k
    · rw [if_pos hjk, if_pos (by omega)]
    · rw [if_neg hjk, if_neg (by omega)]
theorem canTo_start (s : ByteArray) (w : World) (cap : Nat) : CanTo s w.heap.size 0 (w.alloc (.cells (bytesRow s cap) 5 ((bytesRow s cap).size, (bytesRow s cap).size + 1))).drew := by
  refine ⟨fun j hj => ?_, fun j hj => ?_⟩
  · rw [if_neg (by omega)]
    show (w.alloc _).cell? _ = _
    rw [World.cell?_alloc_mark, bytesRow_at s cap j (by simpa using hj), at_get s j hj]
    rfl
  · show (w.alloc _).frozen? _ = _
    rw [World.frozen?_alloc_mark]
    have : s.size ≤ (bytesRow s cap).size := by unfold bytesRow; simp
    simp; omega

set_option maxHeartbeats 1000000 in
theorem canon_any (s : ByteArray) (w : World) (hs : s.size ≤ 1048576) :
    Calls Try.prog 13 #[.string s] w fun e w' => e = .returned (.string ⟨(canon s.data.toList).toArray⟩) ∧ Below w.heap.size w w' := by
  have hcv := fun w => run_bytes_of_string (P := Try.prog) w 9 27 5 s Try.underlying9 Try.underlying27 Try.underlying5
  go_enter Try.func13, Try.ntmps13
  go_wp2
  go_loop [3] (fun i => ∃ k : Nat, k ≤ s.size ∧ i = .int .i64 k ∧ TokTo s k) (fun i => s.size - (intOf i).toNat)
  case atStart => exact ⟨0, Nat.zero_le _, rfl, fun _ _ h => by omega⟩
  case round =>
    obtain ⟨k, hk, rfl, hp⟩ := hrel
    have HP : Hid (TokTo s k) := hp
    clear hp
    by_cases hlt : k < s.size
    · have hb := byte_lt s[k]
      have HC : Hid _ := fun w => tok_any (s[k].toNat : Int) (by omega) (by omega) w
      cases ht : tokB (s[k].toNat : Int)
      · have HN : Hid (allTok s.data.toList = false) := tokTo_not hlt ht
        rw [ht] at HC
        clear ht hcv
        go_wp2_with (go_at_call 29; refine Calls.mono (HC.out _) ?_; rintro e w' ⟨rfl, rfl⟩)
        go_ret
        exact ⟨by unfold canon; rw [HN.out]; rfl, Below.refl _ _⟩
      · have HN : Hid (TokTo s (k + 1)) := tokTo_succ HP.out hlt ht
        rw [ht] at HC
        clear ht hcv
        go_wp2_with (go_at_call 29; refine Calls.mono (HC.out _) ?_; rintro e w' ⟨rfl, rfl⟩)
        go_round
        case rel => exact ⟨k + 1, by omega, by go_num, HN.out⟩
        case measure => simp [intOf]; omega
    · have hke : k = s.size := by omega
      have HA : Hid (allTok s.data.toList = true) := tokTo_all (by rw [← hke]; exact HP.out)
      clear HP hke
      go_wp2
      have hst := canTo_start s w (grownCap w s.size 0 5)
      have HST : Hid _ := hst
      clear hst hcv
      go_loopw [5, 24] (fun u i wr => ∃ k : Nat, k ≤ s.size ∧ i = .int .i64 k ∧ u = .bool (up s.data.toList k) ∧ CanTo s w.heap.size k wr ∧ Below w.heap.size w wr) (fun _ i _ => s.size - (intOf i).toNat)
      case atStart => exact ⟨0, Nat.zero_le _, rfl, rfl, HST.out, ((Below.refl _ _).alloc (Nat.le_refl _) _).drew⟩
      case round =>
        obtain ⟨k', hk', rfl, rfl, hcan, hbel⟩ := hrel
        clear HST
        by_cases hlt' : k' < s.size
        · have hc0 := hcan.1 k' hlt'
          have hf0 := hcan.2 k' hlt'
          rw [if_neg (by omega)] at hc0
          have hb := byte_lt (s.data.toList.getD k' 0)
          have HU : Hid (up s.data.toList (k' + 1) = (((s.data.toList.getD k' 0).toNat : Int) == 45)) := up_succ _ _
          have HPUT : Hid (∀ v : Int, v = stepI (up s.data.toList k') ((s.data.toList.getD k' 0).toNat : Int) → CanTo s w.heap.size (k' + 1) (wr.setCell ⟨w.heap.size, k', none⟩ (.int .u8 v))) := fun v hv => canTo_put hcan hlt' hv
          have HKEEP : Hid (((s.data.toList.getD k' 0).toNat : Int) = stepI (up s.data.toList k') ((s.data.toList.getD k' 0).toNat : Int) → CanTo s w.heap.size (k' + 1) wr) := canTo_keep hcan hlt'
          have HBEL : Hid (Below w.heap.size w wr) := hbel
          clear hcan hbel
          obtain ⟨c, hc⟩ : ∃ c : Int, ((s.data.toList.getD k' 0).toNat : Int) = c := ⟨_, rfl⟩
          obtain ⟨u, hu⟩ : ∃ u : Bool, up s.data.toList k' = u := ⟨_, rfl⟩
          rw [hc] at hc0 HU HPUT HKEEP
          rw [hu] at HPUT HKEEP
          have hc1 : 0 ≤ c := by omega
          have hc2 : c ≤ 255 := by omega
          clear hb hc
          rw [hu]
          clear hu
          cases u <;> rcases (show c < 65 ∨ (65 ≤ c ∧ c ≤ 90) ∨ (91 ≤ c ∧ c ≤ 96) ∨ (97 ≤ c ∧ c ≤ 122) ∨ 123 ≤ c from by omega) with h | ⟨h, h'⟩ | ⟨h, h'⟩ | ⟨h, h'⟩ | h
          all_goals go_wp2
          all_goals first | (go_roundw; (case rel => exact ⟨k' + 1, by omega, by go_num, by rw [HU.out], HPUT.out _ (by first | exact stepI_up h h' | exact stepI_down h h'), HBEL.out.setCell (Nat.le_refl _) _⟩); (case measure => simp [intOf]; omega)) | (go_roundw; (case rel => exact ⟨k' + 1, by omega, by go_num, by rw [HU.out], HKEEP.out (stepI_keep (by intro hu; first | (cases hu; done) | omega) (by intro hu; first | (cases hu; done) | omega)), HBEL.out⟩); (case measure => simp [intOf]; omega))
        · have hke : k' = s.size := by omega
          have hcb : (convert 27 9 (.slice (some ⟨w.heap.size, 0, none⟩) s.size (grownCap w s.size 0 5))).run Try.prog wr = .ok (.string ⟨(canonL s.data.toList).toArray⟩) wr := by
            have h := run_convert_bytes_back (P := Try.prog) wr 27 9 5 ⟨w.heap.size, 0, none⟩ (grownCap w s.size 0 5) (canonL s.data.toList) Try.underlying27 Try.underlying5 Try.underlying9 (fun j hj => by
              have hj' : j < s.size := by rw [canonL_length, len_eq] at hj; exact hj
              rw [Addr.add_lit, Nat.zero_add, hcan.1 j hj', if_pos (by omega), canonL_getElem])
            rw [canonL_length, len_eq] at h
            exact h
          have HBEL : Hid (Below w.heap.size w wr) := hbel
          have HCAN : Hid (canon s.data.toList = canonL s.data.toList) := by show canon _ = _; unfold canon; rw [HA.out]; rfl
          clear hbel hcan hke
          go_wp2
          go_ret
          exact ⟨ret_string HCAN.out.symm, HBEL.out⟩
end Go.Proofs.Qxb6600093a
