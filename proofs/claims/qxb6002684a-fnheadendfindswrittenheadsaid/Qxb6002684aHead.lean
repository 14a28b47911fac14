import Derived.Test.Qxb6002684aEnds
import Derived.Test.Qxb6002684aIdx
namespace Go.Proofs.Qxb6002684a
open Go.RowKit

theorem ret_int {k : IntKind} {a b : Int} (h : a = b) : Ending.returned (.int k a) = .returned (.int k b) := by rw [h]
theorem drop_getD (xs : List Int) (i k : Nat) : (xs.drop i).getD k 0 = xs.getD (i + k) 0 := by simp [List.getD_eq_getElem?_getD]

set_option maxHeartbeats 1000000 in
theorem head_any (b n cap : Nat) (xs : List Int) (w : World) (hn : n ≤ 281474976710656) (hx : xs.length = n) (hcap : n ≤ cap) (hw : ∀ k, k < n → 0 ≤ xs.getD k 0 ∧ xs.getD k 0 ≤ 255)
    (hc : ∀ i, i < n → w.cell? ⟨b, i, none⟩ = some (.int .u8 (xs.getD i 0))) :
    Calls Try.prog 29 #[.slice (some ⟨b, 0, none⟩) n cap] w fun e w' => ∃ r : Nat, e = .returned (.int .i64 r) ∧ IsHead xs n r ∧ w' = w := by
  go_enter Try.func29, Try.ntmps29
  go_wp2
  go_loop [3] (fun i => ∃ k : Nat, k ≤ n ∧ i = .int .i64 k ∧ ∀ p, p < k → ¬ E2 xs n p ∧ ¬ E3 xs n p) (fun i => n - (intOf i).toNat)
  case atStart => exact ⟨0, Nat.zero_le _, rfl, by omega⟩
  case round =>
    obtain ⟨k, hk, rfl, hp⟩ := hrel
    have HP : Hid (∀ p, p < k → ¬ E2 xs n p ∧ ¬ E3 xs n p) := hp
    have HW : Hid (∀ k, k < n → 0 ≤ xs.getD k 0 ∧ xs.getD k 0 ≤ 255) := hw
    have HC : Hid (∀ i, i < n → w.cell? ⟨b, i, none⟩ = some (.int .u8 (xs.getD i 0))) := hc
    have HX : Hid (xs.length = n) := hx
    clear hp hw hc hx
    have hfound : ∀ (o c : Nat), (k < n → o = k) → Calls Try.prog 37 #[.slice (some ⟨b, o, none⟩) (n - k) c, .int .u8 10] w fun e w' => ∃ j, e = .returned (.int .i64 j) ∧ Found (xs.drop k) j ∧ w' = w := by
      intro o c ho
      refine idx_some b o (n - k) c (xs.drop k) w (by simp [HX.out]) (fun i hi => ?_) (fun i hi => ?_)
      · rw [drop_getD]; simp [HX.out] at hi; exact HW.out _ (by omega)
      · rw [drop_getD, ho (by omega)]; exact HC.out _ (by omega)
    have HF : Hid _ := hfound
    clear hfound
    by_cases hkc : k < cap
    · have hck : ¬ cap = k := by omega
      go_wp2_with fail
      refine (HF.out _ _ (by omega)).mono ?_
      rintro e w' ⟨j, rfl, hf, rfl⟩
      rcases hf with ⟨rfl, hno⟩ | ⟨jn, rfl, hjl, hj10, hjs⟩
      · go_wp2
        go_ret
        refine ⟨0, rfl, head_zero HP.out (fun i hi => ?_), rfl⟩
        rw [← drop_getD]; exact hno i (by simp [HX.out]; omega)
      · have hjl' : k + jn < n := by simp [HX.out] at hjl; omega
        have hj10' : xs.getD (k + jn) 0 = 10 := by rw [← drop_getD]; exact hj10
        have hpre := head_go (xs := xs) (n := n) (i := k) (j := jn) HP.out (fun q hq => by rw [← drop_getD]; exact hjs q hq)
        have HPRE : Hid _ := hpre
        have H10 : Hid _ := hj10'
        obtain ⟨y1, hy1⟩ : ∃ y, xs.getD (k + jn + 1) 0 = y := ⟨_, rfl⟩
        obtain ⟨y2, hy2⟩ : ∃ y, xs.getD (k + jn + 2) 0 = y := ⟨_, rfl⟩
        have h1 : k + jn + 1 < n → w'.cell? ⟨b, k + (jn + 1), none⟩ = some (.int .u8 y1) := fun h => by rw [← hy1]; exact HC.out _ h
        have h2 : k + jn + 2 < n → w'.cell? ⟨b, k + (jn + 1) + 1, none⟩ = some (.int .u8 y2) := fun h => by rw [← hy2]; exact HC.out _ h
        have HY1 : Hid (xs.getD (k + jn + 1) 0 = y1) := hy1
        have HY2 : Hid (xs.getD (k + jn + 2) 0 = y2) := hy2
        clear hj10 hj10' hjs hpre hjl hy1 hy2
        by_cases l1 : k + jn + 1 < n
        · have c1 := h1 l1
          clear h1
          by_cases l2 : k + jn + 2 < n
          · have c2 := h2 l2
            clear h2
            go_wp2
            · go_ret
              have hy : (y1 == 10) = true := by assumption
              exact ⟨k + jn + 2, ret_int (by omega), .inr ⟨k + jn, .inl ⟨rfl, l1, H10.out, by rw [HY1.out]; simpa using hy⟩, HPRE.out⟩, rfl⟩
            · go_ret
              have hy1 : (y1 == 10) = false := by assumption
              have hy13 : y1 = 13 := by assumption
              have hy : (y2 == 10) = true := by assumption
              refine ⟨k + jn + 3, ret_int (by omega), .inr ⟨k + jn, .inr ⟨rfl, ⟨l2, H10.out, by rw [HY1.out]; exact hy13, by rw [HY2.out]; simpa using hy⟩, fun h => ?_⟩, HPRE.out⟩, rfl⟩
              have := h.2.2; rw [HY1.out] at this; simp [this] at hy1
            · go_roundw
              have hy1 : (y1 == 10) = false := by assumption
              have hy : (y2 == 10) = false := by assumption
              case rel => exact ⟨k + jn + 1, by omega, by go_num, head_step HPRE.out (fun h => by have := h.2.2; rw [HY1.out] at this; simp [this] at hy1) (fun h => by have := h.2.2.2; rw [HY2.out] at this; simp [this] at hy)⟩
              case measure => simp [intOf]; omega
            · go_roundw
              have hy1 : (y1 == 10) = false := by assumption
              have hy : ¬ y1 = 13 := by assumption
              case rel => exact ⟨k + jn + 1, by omega, by go_num, head_step HPRE.out (fun h => by have := h.2.2; rw [HY1.out] at this; simp [this] at hy1) (fun h => by have := h.2.2.1; rw [HY1.out] at this; exact hy this)⟩
              case measure => simp [intOf]; omega
          · clear h2
            go_wp2
            · go_ret
              have hy : (y1 == 10) = true := by assumption
              exact ⟨k + jn + 2, ret_int (by omega), .inr ⟨k + jn, .inl ⟨rfl, l1, H10.out, by rw [HY1.out]; simpa using hy⟩, HPRE.out⟩, rfl⟩
            · go_roundw
              have hy1 : (y1 == 10) = false := by assumption
              case rel => exact ⟨k + jn + 1, by omega, by go_num, head_step HPRE.out (fun h => by have := h.2.2; rw [HY1.out] at this; simp [this] at hy1) (fun h => by have := h.1; omega)⟩
              case measure => simp [intOf]; omega
        · clear h1 h2
          go_wp2
          go_roundw
          case rel => exact ⟨k + jn + 1, by omega, by go_num, head_step HPRE.out (fun h => by have := h.1; omega) (fun h => by have := h.1; omega)⟩
          case measure => simp [intOf]; omega
    · have hck : cap = k := by omega
      have hnk : n = k := by omega
      have HN : Hid (n = k) := hnk
      clear hnk
      go_wp2_with fail
      refine (HF.out _ _ (fun h => by have := HN.out; omega)).mono ?_
      rintro e w' ⟨j, rfl, hf, rfl⟩
      rcases hf with ⟨rfl, hno⟩ | ⟨jn, rfl, hjl, hj10, hjs⟩
      · go_wp2
        go_ret
        exact ⟨0, rfl, head_zero HP.out (fun i hi => by have := HN.out; omega), rfl⟩
      · have := HN.out; have := HX.out; simp at hjl; omega

set_option maxHeartbeats 1000000 in
theorem head_nil (w : World) : Calls Try.prog 29 #[.slice none 0 0] w fun e w' => e = .returned (.int .i64 0) ∧ w' = w := by
  go_enter Try.func29, Try.ntmps29
  go_wp2
  refine wp_loop_rounds 1 ?_
  rw [rounds_succ]
  go_wp2_with (go_at_call 37; refine (idx_nil _).mono ?_; rintro e w' ⟨rfl, rfl⟩)
  go_ret
  exact ⟨rfl, rfl⟩

set_option maxHeartbeats 1000000 in
theorem zzhead_any (b n cap : Nat) (xs : List Int) (w : World) (hn : n ≤ 281474976710656) (hx : xs.length = n) (hcap : n ≤ cap) (hw : ∀ k, k < n → 0 ≤ xs.getD k 0 ∧ xs.getD k 0 ≤ 255)
    (hc : ∀ i, i < n → w.cell? ⟨b, i, none⟩ = some (.int .u8 (xs.getD i 0))) :
    Calls Try.prog 18 #[.slice (some ⟨b, 0, none⟩) n cap] w fun e w' => ∃ r : Nat, e = .returned (.int .i64 r) ∧ IsHead xs n r ∧ w' = w := by
  have h := head_any b n cap xs w hn hx hcap hw hc
  have H : Hid _ := h
  clear h hx hc hw
  go_enter Try.func18, Try.ntmps18
  go_wp2_with fail
  refine Calls.mono H.out ?_
  rintro e w' ⟨r, rfl, hr, rfl⟩
  go_wp2
  go_ret
  exact ⟨r, rfl, hr, rfl⟩

set_option maxHeartbeats 1000000 in
theorem zzhead_nil (w : World) : Calls Try.prog 18 #[.slice none 0 0] w fun e w' => e = .returned (.int .i64 0) ∧ w' = w := by
  go_enter Try.func18, Try.ntmps18
  go_wp2_with (go_at_call 29; refine (head_nil _).mono ?_; rintro e w' ⟨rfl, rfl⟩)
  go_ret
  exact ⟨rfl, rfl⟩
end Go.Proofs.Qxb6002684a
