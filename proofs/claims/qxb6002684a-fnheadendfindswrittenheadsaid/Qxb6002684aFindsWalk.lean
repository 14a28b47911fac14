import Derived.Test.Qxb6002684aZz
import Derived.Test.Qxb6002684aInts
namespace Go.Proofs.Qxb6002684a
open Go.RowKit
set_option linter.unusedSimpArgs false
set_option linter.unusedVariables false

theorem sbytes_int (a : Option Addr) (cap : Nat) (ss : List ByteArray) (w : World) (h : Strs w a ss) :
    Calls Try.prog 21 #[.slice a ss.length cap] w fun e w' => ∃ z : Int, e = .returned (.int .i64 z) ∧ w' = w ∧ 0 ≤ z ∧ z ≤ 1048577 ∧ Hid (z ≤ 1048576 → ss.length ≤ 65536 ∧ (tot ss : Int) = z) := by
  refine (sbytes_any a cap ss w h).mono ?_
  rintro e w' ⟨t, rfl, rfl, h1, h2⟩
  exact ⟨t, rfl, rfl, by omega, by omega, fun h => by have := h2 (by omega); omega⟩

theorem tot_get (ss : List ByteArray) (i : Nat) (hi : i < ss.length) : (ss.getD i ByteArray.empty).size ≤ tot ss := by
  induction ss generalizing i with
  | nil => simp at hi
  | cons s l ih =>
    match i, hi with
    | 0, _ => simp [tot]; omega
    | i + 1, hi => have := ih i (by simpa using hi); simp [tot] at this ⊢; omega

/-- The start line, byte by byte: what stands behind k rounds. -/
def WRel (s : ByteArray) (B G : Nat) (w2 : World) (u i : Value) (wr : World) : Prop :=
  ∃ k : Nat, k ≤ s.size ∧ i = .int .i64 k ∧ u = .slice (some ⟨G, 0, none⟩) k (s.size + 2) ∧ Hid (wr.ownsRow B 5 1 (.slice (some ⟨G, 0, none⟩) k (s.size + 2)) k ((Lib.strCells s).take k)) ∧ Hid (Below G w2 wr)

theorem cells_two (w : World) (x y : Value) : ∀ j u, [x, y][j]? = some u → (w.alloc (.cells #[x, y] 5)).cell? ((⟨w.heap.size, 0, none⟩ : Addr).add j) = some u := by
  intro j u h
  match j, h with
  | 0, h => simp at h; subst h; simp [Addr.add]
  | 1, h => simp at h; subst h; simp [Addr.add]
  | j + 2, h => simp at h

set_option maxHeartbeats 1000000 in
theorem finds_walk (s : ByteArray) (a : Option Addr) (cap : Nat) (ss : List ByteArray) (a2 : Option Addr) (cap2 : Nat) (ts : List ByteArray) (w : World) (h1 : Strs w a ss) (h2 : Strs w a2 ts) :
    Calls Try.prog 7 #[.string s, .slice a ss.length cap, .slice a2 ts.length cap2] w fun e w' => e = .returned (.bool true) ∧ Below w.heap.size w w' := by
  have H1 : Hid (Strs w a ss) := h1
  have H2 : Hid (Strs w a2 ts) := h2
  clear h1 h2
  obtain ⟨q, hq⟩ : ∃ z : Int, (s.size : Int) = z := ⟨_, rfl⟩
  have HQ : Hid ((s.size : Int) = q) := hq
  have hq0 : 0 ≤ q := by omega
  go_enter Try.func7, Try.ntmps7
  go_wp2_with fail
  refine (zz_any s a cap ss a2 cap2 ts _ H1.out H2.out).mono ?_
  rintro e w' ⟨⟨b, rfl, _⟩, hw⟩
  obtain rfl := hw.symm
  cases b
  · go_wp2
    go_ret
    exact ⟨rfl, Below.refl _ _⟩
  by_cases hq1 : 1048576 < q
  · go_wp2
    go_ret
    exact ⟨rfl, Below.refl _ _⟩
  go_wp2_with fail
  refine (sbytes_int a cap ss _ H1.out).mono ?_
  rintro e w' ⟨z1, rfl, hw, hz1, hz1', HZ1⟩
  obtain rfl := hw.symm
  go_wp2_with fail
  refine (sbytes_int a2 cap2 ts _ H2.out).mono ?_
  rintro e w' ⟨z2, rfl, hw, hz2, hz2', HZ2⟩
  obtain rfl := hw.symm
  go_wp2_with fail
  · go_ret
    exact ⟨rfl, Below.refl _ _⟩
  refine (sbytes_int a cap ss _ H1.out).mono ?_
  rintro e w' ⟨z3, rfl, hw, hz3, hz3', HZ3⟩
  obtain rfl := hw.symm
  go_wp2_with fail
  refine (sbytes_int a2 cap2 ts _ H2.out).mono ?_
  rintro e w' ⟨z4, rfl, hw, hz4, hz4', HZ4⟩
  obtain rfl := hw.symm
  by_cases hsum : 1048576 < q + z3 + z4
  · go_wp2
    go_ret
    exact ⟨rfl, Below.refl _ _⟩
  have b1 := HZ3.out (by omega)
  have b2 := HZ4.out (by omega)
  have hl1 : ss.length ≤ 65536 := b1.1
  have hl2 : ts.length ≤ 65536 := b2.1
  have hsz : s.size ≤ 1048576 := by omega
  have HT : Hid (s.size + tot ss + tot ts ≤ 1048576) := by show s.size + tot ss + tot ts ≤ 1048576; omega
  by_cases hne : ss.length = ts.length
  case neg =>
    have hne' : ((ss.length : Int) != (ts.length : Int)) = true := by simp; omega
    clear b1 b2
    go_wp2
    go_ret
    exact ⟨rfl, Below.refl _ _⟩
  have hne' : ((ss.length : Int) != (ts.length : Int)) = false := by simp; omega
  have HNE : Hid (ss.length = ts.length) := hne
  clear b1 b2 HZ1 HZ2 HZ3 HZ4 hne hz1 hz1' hz2 hz2'
  go_wp2_with fail
  refine (has_any s _ hsz).mono ?_
  rintro e w' ⟨⟨b, rfl, hno⟩, hw⟩
  obtain rfl := hw.symm
  cases b
  case true =>
    clear hno
    go_wp2
    go_ret
    exact ⟨rfl, Below.refl _ _⟩
  have HN0 : Hid (NoLF s) := hno rfl
  clear hno
  go_wp2_with fail
  refine (anyhas_any a cap ss _ H1.out hl1 (fun i hi => by have := tot_get ss i hi; have := HT.out; omega)).mono ?_
  rintro e w' ⟨⟨b, rfl, hno⟩, hw⟩
  obtain rfl := hw.symm
  cases b
  case true =>
    clear hno
    go_wp2
    go_ret
    exact ⟨rfl, Below.refl _ _⟩
  have HN1 : Hid (∀ i, i < ss.length → NoLF (ss.getD i ByteArray.empty)) := hno rfl
  clear hno
  go_wp2_with fail
  refine (anyhas_any a2 cap2 ts _ H2.out hl2 (fun i hi => by have := tot_get ts i hi; have := HT.out; omega)).mono ?_
  rintro e w' ⟨⟨b, rfl, hno⟩, hw⟩
  obtain rfl := hw.symm
  cases b
  case true =>
    clear hno
    go_wp2
    go_ret
    exact ⟨rfl, Below.refl _ _⟩
  have HN2 : Hid (∀ i, i < ts.length → NoLF (ts.getD i ByteArray.empty)) := hno rfl
  clear hno
  go_wp2_with fail
  refine (sclone_any a cap ss _ H1.out hl1).mono ?_
  rintro e w1 ⟨a', cap', rfl, hs1, hb1⟩
  have S1 : Hid (Strs w1 a' ss) := hs1
  have B1 : Hid (Below w.heap.size w w1) := hb1
  have z1 := hb1.size
  clear hs1 hb1
  go_wp2_with fail
  refine (sclone_any a2 cap2 ts _ (H2.out.below (Nat.le_refl _) B1.out) hl2).mono ?_
  rintro e w2 ⟨a2', cap2', rfl, hs2, hb2⟩
  have S2 : Hid (Strs w2 a2' ts) := hs2
  have S1' : Hid (Strs w2 a' ss) := S1.out.below (Nat.le_refl _) hb2
  have B2 : Hid (Below w.heap.size w w2) := B1.out.trans (hb2.mono z1)
  have z2 := B2.out.size
  clear hs2 hb2 S1 B1 z1
  obtain ⟨i0, hi, hz0, hz1, hz2⟩ := info_parts Try.info5'
  have hcap : i0.bytes * (s.size + 2) ≤ 281474976710656 := by rw [hz2]; omega
  have hcap2 : s.size + 2 ≤ maxLen := by unfold maxLen; omega
  go_wp2_with (at_make; refine wpList_make_own _ rfl _ _ 29 rfl w.heap.size 5 i0 _ 1 Try.underlying29 hi hz0 hz1 _ _ _ (s.size + 2) rfl rfl (by have := HQ.out; omega) hcap hcap2 z2 ?_; intro w3 ho3 hg3)
  have R3 : WRel s w.heap.size w2.heap.size w2 (.slice (some ⟨w2.heap.size, 0, none⟩) 0 (s.size + 2)) (.int .i64 0) w3 := ⟨0, Nat.zero_le _, rfl, rfl, by show World.ownsRow _ _ _ _ _ _ _; simpa using ho3, (Below.refl _ _).grown hg3 (Nat.le_refl _) (by intro k h; cases h)⟩
  have g2 : w2.heap.size < w3.heap.size := (ho3.lt _ rfl).2
  clear ho3 hg3 hq hcap hcap2
  go_loopw [7, 8] (fun u i wr => WRel s w.heap.size w2.heap.size w2 u i wr) (fun _ i _ => s.size - (intOf i).toNat)
  case atStart => exact R3
  case round =>
    obtain ⟨k, hk, rfl, rfl, HO, HB⟩ := hrel
    have zr := HB.out.size
    clear R3
    by_cases hlt : k < s.size
    · have HT := bI_take s k hlt
      have HT' : Hid ((Lib.strCells s).take (k + 1) = (Lib.strCells s).take k ++ [.int .u8 (s[k].toNat : Int)]) := HT
      clear HT
      obtain ⟨c, hc⟩ : ∃ c : Int, (s[k].toNat : Int) = c := ⟨_, rfl⟩
      have HC : Hid ((s[k].toNat : Int) = c) := hc
      go_wp2_with (at_builtin; refine wpList_append_fits _ rfl (.tmp 63) (.tmp 67) 29 rfl w.heap.size 5 i0 1 Try.underlying29 hi hz1 w2.heap.size k (s.size + 2) _ rfl (HO.out.alloc _) ⟨wr.heap.size, 0, none⟩ 1 1 [.int .u8 c] rfl rfl (cell_one_new _ _ _) (by intro u hu; simp at hu; subst hu; rfl) (by omega) ?_; intro w4 ho4 hg4; have HO4 : Hid _ := ho4; have HG4 : Hid _ := hg4; clear ho4 hg4)
      go_roundw
      case rel =>
        refine ⟨k + 1, by omega, by go_num, rfl, ?_, ?_⟩
        · show World.ownsRow _ _ _ _ _ _ _
          rw [HT'.out, HC.out]
          exact HO4.out
        · exact (HB.out.alloc (by omega) _).grown HG4.out (by simp; omega) (by intro k h; simp at h; omega)
      case measure => simp [intOf]; omega
    · have hke : k = s.size := by omega
      have HO' : Hid (wr.ownsRow w.heap.size 5 1 (.slice (some ⟨w2.heap.size, 0, none⟩) s.size (s.size + 2)) s.size (Lib.strCells s)) := by
        have h := HO.out
        rw [hke, List.take_of_length_le (by rw [Lib.strCells_length]; omega)] at h
        exact h
      have HKE : Hid (k = s.size) := hke
      subst hke
      clear HO
      go_wp2_with (at_builtin; refine wpList_append_fits _ rfl (.tmp 69) (.tmp 70) 29 rfl w.heap.size 5 i0 1 Try.underlying29 hi hz1 w2.heap.size _ (s.size + 2) _ rfl (HO'.out.alloc _) ⟨wr.heap.size, 0, none⟩ 2 2 [.int .u8 13, .int .u8 10] rfl rfl (cells_two _ _ _) (by intro u hu; simp at hu; rcases hu with rfl | rfl <;> rfl) (by omega) ?_; intro w4 ho4 hg4; have HO4 : Hid _ := ho4; have HG4 : Hid _ := hg4; clear ho4 hg4)
      have B4 : Hid (Below w2.heap.size w2 w4) := (HB.out.alloc (by omega) _).grown HG4.out (by simp; omega) (by intro k h; simp at h; omega)
      have O4 : Hid (w4.ownsRow w.heap.size 5 1 (.slice (some ⟨w2.heap.size, 0, none⟩) (s.size + 2) (s.size + 2)) (s.size + 2) (Lib.strCells s ++ [.int .u8 13, .int .u8 10])) := HO4.out
      have s4 := B4.out.size
      clear HO4 HG4 HB HO' HKE
      refine (build_any w.heap.size a' cap' ss a2' cap2' ts w4 (by omega) (S1'.out.below (Nat.le_refl _) B4.out) (S2.out.below (Nat.le_refl _) B4.out) hl1 HNE.out).mono ?_
      rintro e w5 ⟨fv, rfl, hf5, hb5⟩
      have F5 : Hid (w5.ownsRow w.heap.size 47 2 fv (ss.zip ts).length (fieldCells (ss.zip ts))) := hf5
      have B5 : Hid (Below w4.heap.size w4 w5) := hb5
      have s5 := hb5.size
      have O5 : Hid (w5.ownsRow w.heap.size 5 1 (.slice (some ⟨w2.heap.size, 0, none⟩) (s.size + 2) (s.size + 2)) (s.size + 2) (Lib.strCells s ++ [.int .u8 13, .int .u8 10])) := O4.out.kept (below_grown hb5) (.inr (by simp [Value.ownBlock]))
      clear hf5 hb5 O4 S1' S2
      go_wp2_with fail
      refine (zzfields_any w.heap.size _ _ _ fv (ss.zip ts) w5 (by omega) O5.out F5.out (by rw [List.length_zip]; omega) (by have := lines_len ss ts; have := HT.out; omega)).mono ?_
      rintro e w6 ⟨v6, rfl, ho6, hb6⟩
      have hlen : s.size + 2 + (lines (ss.zip ts)).length + 2 = (headI s (ss.zip ts)).length := by
        rw [head_len]
      have O6 : Hid (w6.ownsRow w.heap.size 5 1 v6 (headI s (ss.zip ts)).length ((headI s (ss.zip ts)).map (Value.int .u8))) := by
        have h := ho6
        rw [head_ints, hlen] at h
        exact h
      have B6 : Hid (Below w.heap.size w w6) := ((B2.out.trans (B4.out.mono z2)).trans (B5.out.mono (by omega))).trans hb6
      have hbound : (headI s (ss.zip ts)).length ≤ 281474976710656 := by rw [← hlen]; have := lines_len ss ts; have := HT.out; omega
      have hpos : 0 < (headI s (ss.zip ts)).length := by omega
      clear ho6 hb6 O5 F5 hlen
      obtain ⟨g, cap6, rfl, hgc⟩ : ∃ g cap6, v6 = .slice (some ⟨g, 0, none⟩) (headI s (ss.zip ts)).length cap6 ∧ (headI s (ss.zip ts)).length ≤ cap6 := by
        rcases O6.out.2 with ⟨_, h⟩ | ⟨g, cap6, cur, rfl, _, _, hc, _⟩
        · omega
        · exact ⟨g, cap6, rfl, hc⟩
      have HH : Hid _ := zzhead_any g (headI s (ss.zip ts)).length cap6 (headI s (ss.zip ts)) w6 hbound rfl hgc (fun k hk => headI_byte s (ss.zip ts) _ (by rw [List.getD_eq_getElem?_getD, List.getElem?_eq_getElem hk]; exact List.getElem_mem hk)) (fun i hi => by rw [O6.out.cellAt i (by omega)]; simp [List.getD_eq_getElem?_getD, hi])
      clear hbound hpos
      go_wp2_with fail
      refine Calls.mono HH.out ?_
      rintro e w' ⟨r, rfl, hr, hw⟩
      obtain rfl := hw.symm
      have hrr : r = (headI s (ss.zip ts)).length := head_is hr (headI_end s ss ts HN0.out HN1.out HN2.out)
      have HRR : Hid (r = (headI s (ss.zip ts)).length) := hrr
      clear hr hrr
      go_wp2
      go_ret
      exact ⟨ret_bool (by rw [HRR.out]; simp), B6.out⟩
end Go.Proofs.Qxb6002684a
