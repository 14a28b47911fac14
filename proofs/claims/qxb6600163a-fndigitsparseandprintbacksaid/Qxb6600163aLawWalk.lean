import Derived.Test.Qxb6600163aUnits
import Derived.Test.Qxb6600163aAppend
namespace Go.Proofs.Qxb6600163a
open Go.RowKit
set_option linter.unusedSimpArgs false
set_option linter.unusedVariables false

def strLen : Value → Nat
  | .string s => s.size
  | _ => 0
/-- t is s without some of its leading zeros. -/
def Strip (s t : ByteArray) : Prop := Dig t.data.toList ∧ 0 < t.size ∧ t.size ≤ s.size ∧ val t.data.toList = val s.data.toList
theorem extract_tail (t : ByteArray) : (t.extract 1 t.size).data.toList = t.data.toList.drop 1 := by
  rw [Lib.extract_data, List.take_of_length_le]
  simp
theorem strip_step {s t : ByteArray} (h : Strip s t) (h1 : 1 < t.size) (h0 : ((t[0]'(by omega)).toNat : Int) = 48) : Strip s (t.extract 1 t.size) := by
  obtain ⟨hd, hp, hl, hv⟩ := h
  have hsz : (t.extract 1 t.size).size = t.size - 1 := by simp
  have hx : t.data.toList = t[0] :: t.data.toList.drop 1 := by
    have hne : 0 < t.data.toList.length := by simpa using hp
    cases hc : t.data.toList with
    | nil => rw [hc] at hne; simp at hne
    | cons x l =>
      have := at_get t 0 hp
      rw [hc] at this
      simp at this
      simp [this]
  refine ⟨?_, by omega, by omega, ?_⟩
  · rw [extract_tail]
    exact fun b hb => hd b (List.mem_of_mem_drop hb)
  · rw [extract_tail, ← hv, hx, val_cons]
    have : t[0].toNat - 48 = 0 := by omega
    rw [this]
    simp
theorem strip_bare {s t : ByteArray} (h : Strip s t) (h0 : t.size = 1 ∨ ¬ ((t[0]'(by have := h.2.1; omega)).toNat : Int) = 48) : Bare t.data.toList := by
  have hp := h.2.1
  refine ⟨fun e => ?_, ?_⟩
  · have := congrArg List.length e; rw [len_eq] at this; simp only [List.length_nil] at this; omega
  · rcases h0 with h0 | h0
    · exact .inl (by simpa using h0)
    · refine .inr fun b hb => ?_
      have : b = t[0] := by
        have := at_get t 0 hp
        rw [← this]
        cases hc : t.data.toList with
        | nil => rw [hc] at hb; simp at hb
        | cons x l => rw [hc] at hb; simp at hb; simp [hb]
      rw [this]
      omega

def fitsB (t : ByteArray) : Bool := decide (t.data.toList.length < 19) || (decide (t.data.toList.length = 19) && (Op.bytesLess t.data.toList maxText || t.data.toList == maxText))
theorem fits_lt {t : ByteArray} (h : t.size < 19) : fitsB t = true := by
  unfold fitsB
  rw [len_eq]
  simp [h]
theorem fits_eq {t : ByteArray} (h : t.size = 19) : fitsB t = (Op.bytesLess t.toList maxText || t.toList == maxText) := by
  unfold fitsB
  rw [len_eq, ByteArray.toList_eq, h]
  simp
theorem fits_gt {t : ByteArray} (h : 19 < t.size) : fitsB t = false := by
  unfold fitsB
  rw [len_eq]
  have h1 : ¬ t.size < 19 := by omega
  have h2 : ¬ t.size = 19 := by omega
  simp [h1, h2]

/-- What was printed, as a string, is t. -/
theorem text_back {s t : ByteArray} {w3 : World} {B : Nat} {v : Value} {ds : List UInt8} (hs : Strip s t) (hb : Bare t.data.toList) (hd : Dig ds) (hbd : Bare ds) (hv : val ds = val s.data.toList) (ho : w3.ownsRow B 5 1 v ds.length (cellsOf ds)) :
    ∃ g cap, v = .slice (some ⟨g, 0, none⟩) ds.length cap ∧ (convert 25 9 (.slice (some ⟨g, 0, none⟩) ds.length cap)).run Try.prog w3 = .ok (.string t) w3 := by
  have heq : ds = t.data.toList := bare_unique hd hs.1 hbd hb (by rw [hv, hs.2.2.2])
  have e : (⟨ds.toArray⟩ : ByteArray) = t := by rw [heq]
  rcases ho.2 with ⟨_, h⟩ | ⟨g, cap, cur, rfl, _⟩
  · exact absurd (List.length_eq_zero_iff.1 h) hbd.1
  · refine ⟨g, cap, rfl, ?_⟩
    have h := run_convert_bytes_back (P := Try.prog) w3 25 9 5 ⟨g, 0, none⟩ cap ds Try.underlying25 Try.underlying5 Try.underlying9 (fun j hj => by
      rw [Addr.add_lit, Nat.zero_add, ho.cellAt j (by omega)]
      simp [cellsOf, hj])
    rw [e] at h
    exact h

set_option maxHeartbeats 1000000 in
theorem law_walk (s : ByteArray) (w : World) :
    Calls Try.prog 6 #[.string s] w fun e w' => e = .returned (.bool true) ∧ Below w.heap.size w w' := by
  by_cases hbig : 1048576 < s.size
  · have hbig' : (1048576 : Int) < (s.size : Int) := by omega
    go_enter Try.func6, Try.ntmps6
    go_wp2_with (first | go_in)
    go_ret
    exact ⟨rfl, Below.refl _ _⟩
  have hs : s.size ≤ 1048576 := by omega
  have hbig' : (s.size : Int) ≤ 1048576 := by omega
  clear hbig
  go_enter Try.func6, Try.ntmps6
  go_wp2_with (first | (go_at_call 12; go_in))
  refine (zzdigits_any s w hs).mono ?_
  rintro e w' ⟨⟨b, rfl, hyes⟩, hw⟩
  obtain rfl := hw.symm
  cases b
  · clear hyes
    go_wp2
    go_ret
    exact ⟨rfl, Below.refl _ _⟩
  obtain ⟨hp, hd⟩ := hyes rfl
  have HD : Hid (Dig s.data.toList) := hd
  clear hyes hd
  go_wp2_with fail
  have c0 : ∀ o, (w.alloc o).heap.size = w.heap.size + 1 := fun o => by simp
  refine (zzunits_any _ _ s _ hs hp HD.out).mono ?_
  rintro e w2 ⟨hu, hb⟩
  have k0 : w2.cell? ⟨w.heap.size, 0, none⟩ = some (.string ⟨#[]⟩) := by rw [hb.cell (by simp)]; simp
  have k1 : w2.cell? ⟨w.heap.size, 1, none⟩ = some (.int .i32 0) := by rw [hb.cell (by simp)]; simp
  have k2 : w2.cell? ⟨w.heap.size, 2, none⟩ = some (.int .i64 0) := by rw [hb.cell (by simp)]; simp
  have HB2 : Hid (Below w.heap.size w w2) := ((Below.refl _ _).alloc (Nat.le_refl _) _).trans (hb.mono (by simp))
  clear hb c0
  rcases hu with ⟨hv, rfl⟩ | ⟨hv, rfl⟩
  · have HV : Hid (val s.data.toList ≤ maxI) := hv
    clear hv
    go_wp2
    go_loop [6] (fun v => ∃ t : ByteArray, v = .string t ∧ Hid (Strip s t)) (fun v => strLen v)
    case atStart => exact ⟨s, rfl, HD.out, hp, Nat.le_refl _, rfl⟩
    case round =>
      obtain ⟨t, rfl, HS⟩ := hrel
      have ht0 : 0 < t.size := HS.out.2.1
      have ht1 : t.size ≤ 1048576 := by have := HS.out.2.2.1; omega
      by_cases hz : 1 < t.size ∧ ((t[0]'ht0).toNat : Int) = 48
      · obtain ⟨hz1, hz2⟩ := hz
        have hz1' : (1 : Int) < (t.size : Int) := by omega
        have hz2' : (((t[0]'ht0).toNat : Int) == 48) = true := by simpa using hz2
        have HS' : Hid (Strip s (t.extract 1 t.size)) := strip_step HS.out hz1 hz2
        have HM : Hid ((t.extract 1 t.size).size < t.size) := by show _ < _; simp; omega
        clear hz2
        go_wp2
        go_round
        case rel => exact ⟨_, rfl, HS'.out⟩
        case measure => simp only [strLen]; exact HM.out
      · have HB : Hid (Bare t.data.toList) := strip_bare HS.out (by
          by_cases h1 : t.size = 1
          · exact .inl h1
          · exact .inr (fun h => hz ⟨by omega, h⟩))
        have HF : Hid (fitsB t = decide (val s.data.toList ≤ maxI)) := by
          show _ = _
          rw [← HS.out.2.2.2]
          exact fits_val HS.out.1 HB.out
        have hM : (⟨#[57, 50, 50, 51, 51, 55, 50, 48, 51, 54, 56, 53, 52, 55, 55, 53, 56, 48, 55]⟩ : ByteArray).toList = maxText := by rw [ByteArray.toList_eq]; rfl
        have hz' : t.size = 1 ∨ (1 < t.size ∧ (((t[0]'ht0).toNat : Int) == 48) = false) := by
          by_cases h1 : t.size = 1
          · exact .inl h1
          · exact .inr ⟨by omega, by simp; exact fun h => hz ⟨by omega, h⟩⟩
        clear hz
        have hfit : fitsB t = true := by rw [HF.out]; simpa using HV.out
        rcases (show t.size < 19 ∨ t.size = 19 ∨ 19 < t.size from by omega) with hl | hl | hl
        · have hl' : (t.size : Int) < 19 := by omega
          clear HF hfit
          rcases hz' with h1 | ⟨h1, h2⟩
          · have h1' : (t.size : Int) ≤ 1 := by omega
            clear h1
            go_wp2_with fail
            refine (append_any _ _ _ w2 HV.out).mono ?_
            rintro e w3 ⟨v', ds, rfl, hdg, hbr, hvl, ho, hb⟩
            obtain ⟨g, cap, rfl, hcb⟩ := text_back HS.out HB.out hdg hbr hvl ho
            have HB3 : Hid (Below w.heap.size w w3) := HB2.out.trans (hb.mono HB2.out.size)
            clear hdg hbr hvl ho hb
            go_wp2
            go_ret
            exact ⟨ret_bool (by simp), HB3.out⟩
          · have h1' : (1 : Int) < (t.size : Int) := by omega
            go_wp2_with fail
            refine (append_any _ _ _ w2 HV.out).mono ?_
            rintro e w3 ⟨v', ds, rfl, hdg, hbr, hvl, ho, hb⟩
            obtain ⟨g, cap, rfl, hcb⟩ := text_back HS.out HB.out hdg hbr hvl ho
            have HB3 : Hid (Below w.heap.size w w3) := HB2.out.trans (hb.mono HB2.out.size)
            clear hdg hbr hvl ho hb
            go_wp2
            go_ret
            exact ⟨ret_bool (by simp), HB3.out⟩
        · have hcmp : (Op.bytesLess t.toList maxText || t.toList == maxText) = true := by rw [← fits_eq hl]; exact hfit
          have hl' : ¬ (t.size : Int) < 19 := by omega
          have hl'' : ((t.size : Int) == 19) = true := by simp; omega
          have h1' : (1 : Int) < (t.size : Int) := by omega
          have h2 : (((t[0]'ht0).toNat : Int) == 48) = false := by rcases hz' with h | ⟨_, h⟩; omega; exact h
          clear HF hfit hl hz'
          go_wp2_with fail
          refine (append_any _ _ _ w2 HV.out).mono ?_
          rintro e w3 ⟨v', ds, rfl, hdg, hbr, hvl, ho, hb⟩
          obtain ⟨g, cap, rfl, hcb⟩ := text_back HS.out HB.out hdg hbr hvl ho
          have HB3 : Hid (Below w.heap.size w w3) := HB2.out.trans (hb.mono HB2.out.size)
          clear hdg hbr hvl ho hb
          go_wp2
          go_ret
          exact ⟨ret_bool (by simp), HB3.out⟩
        · rw [fits_gt hl] at hfit; cases hfit
  · have HV : Hid (¬ val s.data.toList ≤ maxI) := hv
    clear hv
    go_wp2
    go_loop [6] (fun v => ∃ t : ByteArray, v = .string t ∧ Hid (Strip s t)) (fun v => strLen v)
    case atStart => exact ⟨s, rfl, HD.out, hp, Nat.le_refl _, rfl⟩
    case round =>
      obtain ⟨t, rfl, HS⟩ := hrel
      have ht0 : 0 < t.size := HS.out.2.1
      have ht1 : t.size ≤ 1048576 := by have := HS.out.2.2.1; omega
      by_cases hz : 1 < t.size ∧ ((t[0]'ht0).toNat : Int) = 48
      · obtain ⟨hz1, hz2⟩ := hz
        have hz1' : (1 : Int) < (t.size : Int) := by omega
        have hz2' : (((t[0]'ht0).toNat : Int) == 48) = true := by simpa using hz2
        have HS' : Hid (Strip s (t.extract 1 t.size)) := strip_step HS.out hz1 hz2
        have HM : Hid ((t.extract 1 t.size).size < t.size) := by show _ < _; simp; omega
        clear hz2
        go_wp2
        go_round
        case rel => exact ⟨_, rfl, HS'.out⟩
        case measure => simp only [strLen]; exact HM.out
      · have HB : Hid (Bare t.data.toList) := strip_bare HS.out (by
          by_cases h1 : t.size = 1
          · exact .inl h1
          · exact .inr (fun h => hz ⟨by omega, h⟩))
        have HF : Hid (fitsB t = decide (val s.data.toList ≤ maxI)) := by
          show _ = _
          rw [← HS.out.2.2.2]
          exact fits_val HS.out.1 HB.out
        have hM : (⟨#[57, 50, 50, 51, 51, 55, 50, 48, 51, 54, 56, 53, 52, 55, 55, 53, 56, 48, 55]⟩ : ByteArray).toList = maxText := by rw [ByteArray.toList_eq]; rfl
        have hz' : t.size = 1 ∨ (1 < t.size ∧ (((t[0]'ht0).toNat : Int) == 48) = false) := by
          by_cases h1 : t.size = 1
          · exact .inl h1
          · exact .inr ⟨by omega, by simp; exact fun h => hz ⟨by omega, h⟩⟩
        clear hz
        have hfit : fitsB t = false := by rw [HF.out]; simpa using HV.out
        rcases (show t.size < 19 ∨ t.size = 19 ∨ 19 < t.size from by omega) with hl | hl | hl
        · rw [fits_lt hl] at hfit; cases hfit
        · have hcmp : (Op.bytesLess t.toList maxText || t.toList == maxText) = false := by rw [← fits_eq hl]; exact hfit
          have hl' : ¬ (t.size : Int) < 19 := by omega
          have hl'' : ((t.size : Int) == 19) = true := by simp; omega
          have h1' : (1 : Int) < (t.size : Int) := by omega
          have h2 : (((t[0]'ht0).toNat : Int) == 48) = false := by rcases hz' with h | ⟨_, h⟩; omega; exact h
          clear HF hfit hl hz'
          go_wp2_with fail
          go_ret
          exact ⟨rfl, HB2.out⟩
        · have hl' : ¬ (t.size : Int) < 19 := by omega
          have hl'' : ((t.size : Int) == 19) = false := by simp; omega
          have h1' : (1 : Int) < (t.size : Int) := by omega
          have h2 : (((t[0]'ht0).toNat : Int) == 48) = false := by rcases hz' with h | ⟨_, h⟩; omega; exact h
          clear HF hfit hz'
          go_wp2_with fail
          go_ret
          exact ⟨rfl, HB2.out⟩
end Go.Proofs.Qxb6600163a
