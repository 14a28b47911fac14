import Derived.Test.Qxb6600163aPlain
import Derived.Test.Qxb6600163aRows
import Derived.WalkKit
import Derived.WalkSpells
import Derived.WalkLawsBesides
namespace Go.Proofs.Qxb6600163a
open Go.RowKit
set_option linter.unusedSimpArgs false
set_option linter.unusedVariables false

theorem Try.info5 : (Try.prog.info? 5).map (fun i => (i.zero, i.size, i.bytes)) = some (some (.int .u8 0), 1, 1) := by kernel_rfl
def cellsOf (ds : List UInt8) : List Value := ds.map fun b => Value.int .u8 (b.toNat : Int)

set_option maxHeartbeats 1000000 in
theorem mag_any (u : Int) (w : World) (h0 : 0 ≤ u) (h1 : u ≤ 9223372036854775807) :
    Calls Try.prog 13 #[.int .i64 u] w fun e w' => e = .returned (.int .u64 u) ∧ w' = w := by
  go_enter Try.func13, Try.ntmps13
  go_wp2
  go_ret
  exact ⟨rfl, rfl⟩

/-- The numbers: ds has been written, 'left' is yet to be. -/
def ANum (u left q : Nat) (ds : List UInt8) : Prop :=
  q + ds.length = 48 ∧ ds.length ≤ 19 ∧ Dig ds ∧ u = left * 10 ^ ds.length + val ds ∧ (ds ≠ [] → left = 0 → Bare ds)
/-- The memory: the kind in its box, the buffer, what stands in it. -/
def AMem (w wr : World) (q : Nat) (ds : List UInt8) : Prop :=
  wr.cell? ⟨w.heap.size, 1, none⟩ = some (.int .i32 0) ∧ (∀ j, j < 48 → (∃ v, wr.cell? ⟨w.heap.size + 1, j, none⟩ = some v) ∧ wr.frozen? ⟨w.heap.size + 1, j, none⟩ = false) ∧
  (∀ j (h : j < ds.length), wr.cell? ⟨w.heap.size + 1, q + j, none⟩ = some (.int .u8 (ds[j].toNat : Int))) ∧ Below w.heap.size w wr ∧ w.heap.size + 1 < wr.heap.size
def ARel (w : World) (u : Nat) (lv iv pv : Value) (wr : World) : Prop :=
  ∃ (ds : List UInt8) (left q : Nat), lv = .int .u64 left ∧ iv = .int .i64 q ∧ pv = .int .i64 ds.length ∧ ANum u left q ds ∧ AMem w wr q ds

/-- What 'AppendUnits' answers for u. -/
def ARes (w : World) (u : Nat) (e : Ending) (w' : World) : Prop :=
  ∃ v' ds, e = .returned v' ∧ Dig ds ∧ Bare ds ∧ val ds = u ∧ w'.ownsRow w.heap.size 5 1 v' ds.length (cellsOf ds) ∧ Below w.heap.size w w'

def digOf (left : Nat) : UInt8 := UInt8.ofNat (48 + left % 10)
theorem digOf_nat (left : Nat) : (digOf left).toNat = 48 + left % 10 := by
  unfold digOf
  rw [UInt8.toNat_ofNat']
  omega
theorem anum_step {u left q : Nat} {ds : List UInt8} (hu : u ≤ maxI) (h : ANum u left (q + 1) ds) (hgo : ds = [] ∨ 0 < left) : ANum u (left / 10) q (digOf left :: ds) := by
  obtain ⟨h1, h2, h3, h4, h5⟩ := h
  have hd := digOf_nat left
  have hlen : ds.length ≤ 18 := by
    rcases hgo with rfl | hl
    · simp
    · have hp : 10 ^ ds.length ≤ left * 10 ^ ds.length := Nat.le_mul_of_pos_left _ hl
      have : ¬ 19 ≤ ds.length := fun hh => by
        have := Nat.pow_le_pow_right (n := 10) (by omega) hh
        unfold maxI at hu
        omega
      omega
  refine ⟨by simp; omega, by simp; omega, ?_, ?_, ?_⟩
  · intro b hb
    simp at hb
    rcases hb with rfl | hb
    · rw [hd]; omega
    · exact h3 b hb
  · rw [val_cons, hd, h4, List.length_cons, Nat.pow_succ]
    have e1 : 48 + left % 10 - 48 = left % 10 := by omega
    rw [e1]
    have e2 : left * 10 ^ ds.length = (left / 10) * (10 ^ ds.length * 10) + left % 10 * 10 ^ ds.length := by
      have : left = left / 10 * 10 + left % 10 := by omega
      rw [Nat.mul_comm (10 ^ ds.length) 10, ← Nat.mul_assoc, ← Nat.add_mul, ← this]
    rw [e2]
    omega
  · intro _ hz
    refine ⟨by simp, ?_⟩
    rcases hgo with rfl | hl
    · exact .inl rfl
    · refine .inr fun b hb => ?_
      simp at hb
      rw [← hb, hd]
      omega
theorem amem_step {w wr : World} {q left : Nat} {ds : List UInt8} (hq : q < 48) (h : AMem w wr (q + 1) ds) : AMem w (wr.setCell ⟨w.heap.size + 1, q, none⟩ (.int .u8 (48 + (left : Int) % 10))) q (digOf left :: ds) := by
  obtain ⟨h1, h2, h3, h4, h5⟩ := h
  have hne : ∀ j, j ≠ q → (wr.setCell ⟨w.heap.size + 1, q, none⟩ (.int .u8 (48 + (left : Int) % 10))).cell? ⟨w.heap.size + 1, j, none⟩ = wr.cell? ⟨w.heap.size + 1, j, none⟩ := fun j hj => World.cell?_setCell_other _ _ _ _ (fun e => hj (by simpa using e.symm))
  obtain ⟨⟨v, hv⟩, hf⟩ := h2 q hq
  have hsame := World.cell?_setCell_same wr ⟨w.heap.size + 1, q, none⟩ (.int .u8 (48 + (left : Int) % 10)) hv
  refine ⟨?_, fun j hj => ⟨?_, ?_⟩, ?_, h4.setCell (by show w.heap.size ≤ w.heap.size + 1; omega) _, by simpa [World.setCell] using h5⟩
  · rw [World.cell?_setCell_other _ _ _ _ (fun e => by simp at e)]; exact h1
  · by_cases e : j = q
    · subst e; exact ⟨_, hsame⟩
    · rw [hne j e]; exact (h2 j hj).1
  · rw [World.frozen?_setCell]; exact (h2 j hj).2
  · intro j hj
    match j, hj with
    | 0, _ =>
      show (wr.setCell _ _).cell? ⟨w.heap.size + 1, q, none⟩ = _
      rw [hsame]
      simp only [List.getElem_cons_zero, digOf_nat]
      congr 2
    | j + 1, hj =>
      rw [hne (q + (j + 1)) (by omega)]
      have := h3 j (by simpa using hj)
      rw [show q + (j + 1) = q + 1 + j from by omega, this]
      simp

theorem amem_start (w : World) (nm : ByteArray) (r : Int) (C : Array Value) (hC : C.size = 48) : AMem w ((w.alloc (.cells #[.string nm, .int .i32 0, .int .i64 r] 24)).alloc (.cells C 36)) 48 [] := by
  have hs : (w.alloc (.cells #[.string nm, .int .i32 0, .int .i64 r] 24)).heap.size = w.heap.size + 1 := by simp
  refine ⟨?_, fun j hj => ⟨⟨C[j]'(by omega), ?_⟩, ?_⟩, fun j h => by simp at h, ((Below.refl _ _).alloc (Nat.le_refl _) _).alloc (by simp) _, by simp⟩
  · rw [World.cell?_alloc_past _ _ _ (by simp)]
    simp
  · rw [← hs, World.cell?_alloc_new]
    simp
  · rw [← hs]
    rw [World.frozen?_alloc_mark (w.alloc (.cells #[.string nm, .int .i32 0, .int .i64 r] 24)) C 36 0 0 j]
    simp

theorem cellsOf_one (ds : List UInt8) : ∀ v ∈ cellsOf ds, v.oneCell' = true := by
  intro v hv
  simp only [cellsOf, List.mem_map] at hv
  obtain ⟨b, _, rfl⟩ := hv
  rfl

set_option maxHeartbeats 1000000 in
theorem append_any (nm : ByteArray) (r : Int) (u : Nat) (w : World) (hu : u ≤ maxI) :
    Calls Try.prog 7 #[.agg #[.string nm, .int .i32 0, .int .i64 r], .slice none 0 0, .int .i64 u] w fun e w' => ARes w u e w' := by
  have HUU : Hid (u ≤ maxI) := hu
  unfold maxI at hu
  obtain ⟨U, hU⟩ : ∃ U : Int, (u : Int) = U := ⟨_, rfl⟩
  have HU : Hid ((u : Int) = U) := hU
  have hu1 : U ≤ 9223372036854775807 := by omega
  have hu0 : 0 ≤ U := by omega
  rw [hU]
  clear hU hu
  go_enter Try.func7, Try.ntmps7
  go_wp2_with (go_at_call 13; refine (mag_any _ _ hu0 hu1).mono ?_; rintro e w' ⟨rfl, rfl⟩)
  have hst := amem_start w nm r (List.replicate 48 (Value.int .u8 0)).toArray (by simp)
  have HST : Hid (ARel w u (.int .u64 U) (.int .i64 48) (.int .i64 0) ((w.alloc (.cells #[.string nm, .int .i32 0, .int .i64 r] 24)).alloc (.cells (List.replicate 48 (Value.int .u8 0)).toArray 36))) := by
    show ARel _ _ _ _ _ _
    exact ⟨[], u, 48, by rw [HU.out], rfl, rfl, ⟨rfl, by simp, fun b hb => by simp at hb, by simp [val], fun h => absurd rfl h⟩, hst⟩
  clear hst
  go_loopw [7, 11, 12] (fun lv iv pv wr => ARel w u lv iv pv wr) (fun lv _ pv _ => 2 * (intOf lv).toNat + (1 - (intOf pv).toNat))
  case atStart => exact HST.out
  case round =>
    obtain ⟨ds, left, q, rfl, rfl, rfl, hnum, hmem⟩ := hrel
    clear HST
    by_cases hgo : ds = [] ∨ 0 < left
    · obtain ⟨q', rfl⟩ : ∃ q', q = q' + 1 := ⟨q - 1, by have := hnum.1; have := hnum.2.1; omega⟩
      have hq48 : q' < 48 := by have := hnum.1; omega
      have HNEW : Hid (ANum u (left / 10) q' (digOf left :: ds)) := anum_step HUU.out hnum hgo
      have HMEM : Hid (AMem w (wr.setCell ⟨w.heap.size + 1, q', none⟩ (.int .u8 (48 + (left : Int) % 10))) q' (digOf left :: ds)) := amem_step hq48 hmem
      have c1 := hmem.1
      obtain ⟨⟨v0, c2⟩, f2⟩ := hmem.2.1 q' hq48
      have hl19 : left ≤ 9223372036854775807 := by
        have h1 := hnum.2.2.2.1
        have h2 := HUU.out
        have h3 : left ≤ left * 10 ^ ds.length := Nat.le_mul_of_pos_right _ (Nat.pow_pos (by omega))
        unfold maxI at h2
        omega
      obtain ⟨L, hL⟩ : ∃ L : Int, (left : Int) = L := ⟨_, rfl⟩
      have HL : Hid ((left : Int) = L) := hL
      have hL0 : 0 ≤ L := by omega
      have hL1 : L ≤ 9223372036854775807 := by omega
      have hlen : ds.length ≤ 19 := hnum.2.1
      clear hnum hmem hl19
      rcases Nat.eq_zero_or_pos ds.length with hz | hz
      · have hz' : (ds.length : Int) = 0 := by omega
        have HZ : Hid (ds.length = 0) := hz
        go_wp2
        go_roundw
        case rel => exact ⟨digOf left :: ds, left / 10, q', by rw [show L / 10 = ((left / 10 : Nat) : Int) from by have := HL.out; omega], rfl, by rw [show ((digOf left :: ds).length : Int) = 1 from by have := HZ.out; simp; omega], HNEW.out, by rw [← HL.out]; exact HMEM.out⟩
        case measure => have := HL.out; have := HZ.out; simp [intOf]; omega
      · have hne : ds ≠ [] := fun h => by rw [h] at hz; simp at hz
        have hlp : 0 < left := by rcases hgo with h | h; exact absurd h hne; exact h
        have hLp : 0 < L := by omega
        have hz' : (0 : Int) < (ds.length : Int) := by omega
        have hz2 : ((ds.length : Int) == 0) = false := by simp; omega
        clear hgo
        have HZ : Hid (0 < ds.length) := hz
        have HLP : Hid (0 < left) := hlp
        go_wp2
        go_roundw
        case rel => exact ⟨digOf left :: ds, left / 10, q', by rw [show L / 10 = ((left / 10 : Nat) : Int) from by have := HL.out; omega], rfl, by rw [show ((digOf left :: ds).length : Int) = (ds.length : Int) + 1 from by simp], HNEW.out, by rw [← HL.out]; exact HMEM.out⟩
        case measure => have := HL.out; have := HZ.out; have := HLP.out; simp [intOf]; omega
    · have hne : ds ≠ [] := fun h => hgo (.inl h)
      have hl0 : left = 0 := by have : ¬ 0 < left := fun h => hgo (.inr h); omega
      subst hl0
      have hpos : 0 < ds.length := List.length_pos_iff.2 hne
      have hz' : (0 : Int) < (ds.length : Int) := by omega
      have HBARE : Hid (Bare ds) := hnum.2.2.2.2 hne rfl
      have HDIG : Hid (Dig ds) := hnum.2.2.1
      have HVAL : Hid (val ds = u) := by show val ds = u; have := hnum.2.2.2.1; simp at this; exact this.symm
      have hq : q + ds.length = 48 := hnum.1
      have hl19 : ds.length ≤ 19 := hnum.2.1
      have hq1 : (q : Int) ≤ 47 := by omega
      have hq2 : ¬ (48 = q) := by omega
      have HQ : Hid (q + ds.length = 48) := hq
      have HMEM : Hid (AMem w wr q ds) := hmem
      have c1 := hmem.1
      clear hnum hmem hgo hq
      obtain ⟨i0, hi, hz0, hz1, hz2⟩ := info_parts Try.info5
      have hnl : (cellsOf ds).length = (48 - q) * 1 := by have := HQ.out; simp [cellsOf]; omega
      have HNL : Hid ((cellsOf ds).length = (48 - q) * 1) := hnl
      have HNC : Hid (∀ j v, (cellsOf ds)[j]? = some v → wr.cell? ((⟨w.heap.size + 1, q, none⟩ : Addr).add j) = some v) := by
        intro j v hj
        have hj' : j < ds.length := by have := (List.getElem?_eq_some_iff.1 hj).1; simpa [cellsOf] using this
        rw [Addr.add_lit, HMEM.out.2.2.1 j hj']
        simp [cellsOf, hj'] at hj
        rw [hj]
      have HB : Hid (w.heap.size ≤ wr.heap.size) := by show _ ≤ _; have := HMEM.out.2.2.2.2; omega
      clear hnl
      go_wp2_with (at_builtin; refine wpList_append_own _ rfl (.tmp 71) (.tmp 74) 25 rfl w.heap.size 5 i0 _ 1 1 Try.underlying25 hi hz0 hz1 hz2 rfl (by decide) (.slice none 0 0) 0 [] rfl (World.ownsRow_nil _ _ _ _) ⟨w.heap.size + 1, q, none⟩ (48 - q) (48 - q) (cellsOf ds) rfl HNL.out HNC.out (cellsOf_one ds) (by unfold maxLen; omega) (by omega) HB.out ?_; intro v4 w4 ho4 hg4 _; have HO4 : Hid _ := ho4; have HG4 : Hid _ := hg4; clear ho4 hg4)
      go_ret
      refine ⟨v4, ds, rfl, HDIG.out, HBARE.out, HVAL.out, ?_, ?_⟩
      · have h := HO4.out
        have e : 0 + (48 - q) = ds.length := by have := HQ.out; omega
        rw [e, List.nil_append] at h
        exact h
      · exact HMEM.out.2.2.2.1.grown HG4.out HB.out (by intro k h; cases h)
end Go.Proofs.Qxb6600163a
