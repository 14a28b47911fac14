import Derived.Test.Qxb6600093aCanon
import Derived.Test.Qxb6600093aSize
import Derived.Deep.QuietTactic
import Derived.BigQuiet
namespace Go.Proofs.Qxb6600093a
open Go.RowKit
set_option linter.unusedSimpArgs false
set_option linter.unusedVariables false

set_option maxHeartbeats 1000000 in
theorem low_any (c : Int) (h0 : 0 ≤ c) (h1 : c ≤ 255) (w : World) :
    Calls Try.prog 16 #[.int .u8 c] w fun e w' => e = .returned (.int .u8 (lowOf c)) ∧ w' = w := by
  rcases (show c < 65 ∨ (65 ≤ c ∧ c ≤ 90) ∨ 91 ≤ c from by omega) with h | ⟨h, h'⟩ | h
  · have HE : Hid (lowOf c = c) := by show lowOf c = c; unfold lowOf upB; simp; omega
    go_enter Try.func16, Try.ntmps16
    go_wp2
    go_ret
    exact ⟨ret_int HE.out.symm, rfl⟩
  · have HE : Hid (lowOf c = c + 32) := by show lowOf c = c + 32; unfold lowOf upB; simp; omega
    go_enter Try.func16, Try.ntmps16
    go_wp2
    go_ret
    exact ⟨ret_int HE.out.symm, rfl⟩
  · have HE : Hid (lowOf c = c) := by show lowOf c = c; unfold lowOf upB; simp; omega
    go_enter Try.func16, Try.ntmps16
    go_wp2
    all_goals
      go_ret
      exact ⟨ret_int HE.out.symm, rfl⟩

set_option maxHeartbeats 1000000 in
theorem up_any (c : Int) (h0 : 0 ≤ c) (h1 : c ≤ 255) (w : World) :
    Calls Try.prog 17 #[.int .u8 c] w fun e w' => e = .returned (.bool (upB c)) ∧ w' = w := by
  go_enter Try.func17, Try.ntmps17
  go_wp2
  all_goals
    go_ret
    refine ⟨ret_bool ?_, rfl⟩
    first | (simp [upB, *]; done) | (simp [upB, *]; omega)

set_option maxHeartbeats 1000000 in
theorem lowb_any (c : Int) (h0 : 0 ≤ c) (h1 : c ≤ 255) (w : World) :
    Calls Try.prog 18 #[.int .u8 c] w fun e w' => e = .returned (.bool (lowB c)) ∧ w' = w := by
  go_enter Try.func18, Try.ntmps18
  go_wp2
  all_goals
    go_ret
    refine ⟨ret_bool ?_, rfl⟩
    first | (simp [lowB, *]; done) | (simp [lowB, *]; omega)

theorem up_zero (l : List UInt8) : up l 0 = true := rfl
theorem up_pos (s : ByteArray) (k : Nat) (hk : k < s.size) (h : 0 < k) : up s.data.toList k = (((s[k - 1]'(by omega)).toNat : Int) == 45) := by
  obtain ⟨j, rfl⟩ : ∃ j, k = j + 1 := ⟨k - 1, by omega⟩
  rw [up_succ, at_get s j (by omega)]
  rfl

/-- What the law asks of the canonical key g of s. -/
def IsCanon (s g : ByteArray) : Prop := g.size = s.size ∧ ∀ k (h : k < g.size) (h' : k < s.size), lowOf (g[k].toNat : Int) = lowOf (s[k].toNat : Int) ∧ ((upB (g[k].toNat : Int) || lowB (g[k].toNat : Int)) = true → upB (g[k].toNat : Int) = up s.data.toList k)
theorem isCanon_of (s : ByteArray) : IsCanon s ⟨(canonL s.data.toList).toArray⟩ := by
  refine ⟨?_, fun k h h' => ?_⟩
  · show (canonL s.data.toList).toArray.size = _
    rw [List.size_toArray, canonL_length, len_eq]
  · have e : (⟨(canonL s.data.toList).toArray⟩ : ByteArray)[k] = step (up s.data.toList k) s[k] := by
      show (canonL s.data.toList).toArray[k] = _
      rw [List.getElem_toArray, canonL_getElem, at_get s k h']
    rw [e]
    refine ⟨eq_of_beq (step_low _ _), fun hc => ?_⟩
    have := step_case (up s.data.toList k) s[k]
    rw [hc] at this
    simpa using this

set_option maxHeartbeats 1000000 in
theorem spec_walk (s : ByteArray) (w : World) :
    Calls Try.prog 4 #[.string s] w fun e w' => e = .returned (.bool true) ∧ Below w.heap.size w w' := by
  by_cases hbig : 1048576 < s.size
  · have hbig' : (1048576 : Int) < (s.size : Int) := by omega
    go_enter Try.func4, Try.ntmps4
    go_wp2_with (first | go_in)
    go_ret
    exact ⟨rfl, Below.refl _ _⟩
  have hs : s.size ≤ 1048576 := by omega
  have hbig' : (s.size : Int) ≤ 1048576 := by omega
  clear hbig
  go_enter Try.func4, Try.ntmps4
  go_wp2_with (first | (go_at_call 14; go_in))
  cases ha : allTok s.data.toList
  · have hcan : (⟨(canon s.data.toList).toArray⟩ : ByteArray) = s := by unfold canon; rw [ha]; rfl
    have H := canon_any s w hs
    rw [hcan] at H
    have HA : Hid (allTok s.data.toList = false) := ha
    have H' : Hid _ := fun w => alltchar_any s w hs
    rw [ha] at H'
    clear hcan ha
    refine H.mono ?_
    clear H
    rintro e w1 ⟨rfl, hb⟩
    have HB : Hid (Below w.heap.size w w1) := hb
    clear hb
    go_wp2_with fail
    refine Calls.mono (H'.out _) ?_
    rintro e w' ⟨rfl, hw⟩
    obtain rfl := hw.symm
    go_wp2
    go_ret
    exact ⟨ret_bool (by simp), HB.out⟩
  · have hic := isCanon_of s
    have hcan : canon s.data.toList = canonL s.data.toList := by unfold canon; rw [ha]; rfl
    have H := canon_any s w hs
    rw [hcan] at H
    have H' : Hid _ := fun w => alltchar_any s w hs
    rw [ha] at H'
    clear hcan ha
    obtain ⟨g, hg⟩ : ∃ g : ByteArray, (⟨(canonL s.data.toList).toArray⟩ : ByteArray) = g := ⟨_, rfl⟩
    rw [hg] at hic H
    clear hg
    refine H.mono ?_
    clear H
    rintro e w1 ⟨rfl, hb⟩
    have HB : Hid (Below w.heap.size w w1) := hb
    have HI : Hid (IsCanon s g) := hic
    have hsz : (g.size : Int) = (s.size : Int) := by rw [hic.1]
    clear hb hic
    go_wp2_with fail
    refine Calls.mono (H'.out _) ?_
    rintro e w' ⟨rfl, hw⟩
    obtain rfl := hw.symm
    go_wp2
    go_loopw [4] (fun i wr => ∃ k : Nat, k ≤ s.size ∧ i = .int .i64 k ∧ Below w.heap.size w wr) (fun i _ => s.size - (intOf i).toNat)
    case atStart => exact ⟨0, Nat.zero_le _, rfl, HB.out⟩
    case round =>
      obtain ⟨k, hk, rfl, hb⟩ := hrel
      have HBR : Hid (Below w.heap.size w wr) := hb
      clear hb HB
      by_cases hlt : k < s.size
      · have hkg : k < g.size := by have := HI.out.1; omega
        obtain ⟨hlow, hup⟩ := HI.out.2 k hkg hlt
        have b1 := byte_lt g[k]
        have b2 := byte_lt s[k]
        obtain ⟨x, hx⟩ : ∃ x : Int, (g[k].toNat : Int) = x := ⟨_, rfl⟩
        obtain ⟨y, hy⟩ : ∃ y : Int, (s[k].toNat : Int) = y := ⟨_, rfl⟩
        rw [hx] at hlow hup
        rw [hy] at hlow
        have x0 : 0 ≤ x := by omega
        have x1 : x ≤ 255 := by omega
        have y0 : 0 ≤ y := by omega
        have y1 : y ≤ 255 := by omega
        have HUP : Hid ((upB x || lowB x) = true → upB x = up s.data.toList k) := hup
        clear hup b1 b2 HI hsz
        have hcase : (upB x = false ∧ lowB x = false) ∨ (k = 0 ∧ upB x = true) ∨ (0 < k ∧ upB x = true ∧ up s.data.toList k = true) ∨ (0 < k ∧ upB x = false ∧ lowB x = true ∧ up s.data.toList k = false) := by
          cases hu : upB x <;> cases hl : lowB x
          · exact .inl ⟨rfl, rfl⟩
          all_goals
            have h := HUP.out (by rw [hu, hl]; rfl)
            rw [hu] at h
            rcases Nat.eq_zero_or_pos k with hk0 | hk0
            · subst hk0; first | (rw [up_zero] at h; cases h; done) | exact .inr (.inl ⟨rfl, rfl⟩)
            · first | exact .inr (.inr (.inr ⟨hk0, rfl, rfl, h.symm⟩)) | exact .inr (.inr (.inl ⟨hk0, rfl, h.symm⟩))
        clear HUP
        rcases hcase with ⟨hu, hl⟩ | ⟨rfl, hu⟩ | ⟨hk0, hu, hp⟩ | ⟨hk0, hu, hl, hp⟩
        · go_wp2_with fail
          go_quiet ((go_at_call 16; exact Calls.quiet_of_same (low_any _ (by omega) (by omega) _)))
          go_wp2_with (first | (go_at_call 17; refine (up_any _ (by omega) (by omega) _).mono ?_; rintro e w' ⟨rfl, rfl⟩) | (go_at_call 18; refine (lowb_any _ (by omega) (by omega) _).mono ?_; rintro e w' ⟨rfl, rfl⟩))
          go_roundw
          case rel => exact ⟨k + 1, by omega, by go_num, below_drewN HBR.out _⟩
          case measure => simp [intOf]; omega
        · go_wp2_with fail
          go_quiet ((go_at_call 16; exact Calls.quiet_of_same (low_any _ (by omega) (by omega) _)))
          go_wp2_with (first | (go_at_call 17; refine (up_any _ (by omega) (by omega) _).mono ?_; rintro e w' ⟨rfl, rfl⟩) | (go_at_call 18; refine (lowb_any _ (by omega) (by omega) _).mono ?_; rintro e w' ⟨rfl, rfl⟩))
          go_roundw
          case rel => exact ⟨1, by omega, by go_num, below_drewN HBR.out _⟩
          case measure => simp [intOf]; omega
        · have hpp := up_pos s k hlt hk0
          rw [hp] at hpp
          have hpp' : (((s[k - 1]'(by omega)).toNat : Int) == 45) = true := hpp.symm
          clear hpp hp
          have hk1 : ((k : Int) == 0) = false := by simp; omega
          go_wp2_with fail
          go_quiet ((go_at_call 16; exact Calls.quiet_of_same (low_any _ (by omega) (by omega) _)))
          go_wp2_with (first | (go_at_call 17; refine (up_any _ (by omega) (by omega) _).mono ?_; rintro e w' ⟨rfl, rfl⟩) | (go_at_call 18; refine (lowb_any _ (by omega) (by omega) _).mono ?_; rintro e w' ⟨rfl, rfl⟩))
          go_roundw
          case rel => exact ⟨k + 1, by omega, by go_num, below_drewN HBR.out _⟩
          case measure => simp [intOf]; omega
        · have hpp := up_pos s k hlt hk0
          rw [hp] at hpp
          have hpp' : (((s[k - 1]'(by omega)).toNat : Int) == 45) = false := hpp.symm
          clear hpp hp
          have hk1 : ((k : Int) == 0) = false := by simp; omega
          go_wp2_with fail
          go_quiet ((go_at_call 16; exact Calls.quiet_of_same (low_any _ (by omega) (by omega) _)))
          go_wp2_with (first | (go_at_call 17; refine (up_any _ (by omega) (by omega) _).mono ?_; rintro e w' ⟨rfl, rfl⟩) | (go_at_call 18; refine (lowb_any _ (by omega) (by omega) _).mono ?_; rintro e w' ⟨rfl, rfl⟩))
          go_roundw
          case rel => exact ⟨k + 1, by omega, by go_num, below_drewN HBR.out _⟩
          case measure => simp [intOf]; omega
      · go_wp2
        go_ret
        exact ⟨rfl, HBR.out⟩
end Go.Proofs.Qxb6600093a
