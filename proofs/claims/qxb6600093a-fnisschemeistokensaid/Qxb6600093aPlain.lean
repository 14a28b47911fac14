import Derived.Lib.Bytealg
namespace Go.Proofs.Qxb6600093a

def lowB (c : Int) : Bool := decide (97 ≤ c) && decide (c ≤ 122)
def upB (c : Int) : Bool := decide (65 ≤ c) && decide (c ≤ 90)
def digB (c : Int) : Bool := decide (48 ≤ c) && decide (c ≤ 57)
def marks : List UInt8 := [33, 35, 36, 37, 38, 39, 42, 43, 45, 46, 94, 95, 96, 124, 126]
/-- 'isTokenByte'. -/
def tokB (c : Int) : Bool := lowB c || upB c || digB c || decide (0 ≤ Lib.indexByte marks c.toNat.toUInt8)
/-- 'tcharWebB1'. -/
def tcharB (c : Int) : Bool :=
  !(decide (c < 33) || decide (126 < c)) &&
  !(c == 34 || c == 40 || c == 41 || c == 44 || c == 47 || c == 58 || c == 59 || c == 60 || c == 61 || c == 62 || c == 63 || c == 64 || c == 91 || c == 92 || c == 93 || c == 123 || c == 125)
theorem tchar_tok_fin : ∀ n : Fin 256, tcharB (n.val : Int) = tokB (n.val : Int) := by decide +kernel
theorem byte_lt (b : UInt8) : b.toNat < 256 := b.toNat_lt
theorem tchar_tok {c : Int} (h0 : 0 ≤ c) (h1 : c ≤ 255) : tcharB c = tokB c := by
  have h := tchar_tok_fin ⟨c.toNat, by omega⟩
  have e : ((c.toNat : Nat) : Int) = c := by omega
  simpa [e] using h

def allTok (l : List UInt8) : Bool := l.all fun b => tokB (b.toNat : Int)
/-- 'isToken'. -/
def isTok (l : List UInt8) : Bool := !l.isEmpty && allTok l

/-- What 'isScheme' asks of the byte at i. -/
def schB (i : Nat) (c : Int) : Bool := lowB c || upB c || (!(i == 0) && (digB c || c == 43 || c == 45 || c == 46))
def isSch (l : List UInt8) : Bool := !l.isEmpty && (List.range l.length).all fun i => schB i ((l.getD i 0).toNat : Int)

/-- 'CanonicalKey', byte by byte. -/
def step (u : Bool) (c : UInt8) : UInt8 := if u && lowB (c.toNat : Int) then c - 32 else if !u && upB (c.toNat : Int) then c + 32 else c
def up (l : List UInt8) (i : Nat) : Bool := i == 0 || l.getD (i - 1) 0 == 45
def canonL (l : List UInt8) : List UInt8 := (List.range l.length).map fun i => step (up l i) (l.getD i 0)
def canon (l : List UInt8) : List UInt8 := if allTok l then canonL l else l

theorem canonL_length (l : List UInt8) : (canonL l).length = l.length := by simp [canonL]
theorem canonL_getD (l : List UInt8) (i : Nat) (h : i < l.length) : (canonL l).getD i 0 = step (up l i) (l.getD i 0) := by
  simp [canonL, List.getD_eq_getElem?_getD, h]
theorem canonL_getElem (l : List UInt8) (i : Nat) (h : i < (canonL l).length) : (canonL l)[i] = step (up l i) (l.getD i 0) := by
  simp [canonL]

theorem byte_cases {p : UInt8 → Bool} (h : ∀ n : Fin 256, p (UInt8.ofNat n.val) = true) (b : UInt8) : p b = true := by
  have := h ⟨b.toNat, b.toNat_lt⟩
  simpa using this

theorem step_tok (u : Bool) (c : UInt8) : (!tokB (c.toNat : Int) || tokB ((step u c).toNat : Int)) = true := by
  revert c
  apply byte_cases
  cases u <;> decide +kernel
theorem step_sch_zero (u : Bool) (c : UInt8) : (schB 0 ((step u c).toNat : Int) == schB 0 (c.toNat : Int)) = true := by
  revert c
  apply byte_cases
  cases u <;> decide +kernel
theorem step_sch_one (u : Bool) (c : UInt8) : (schB 1 ((step u c).toNat : Int) == schB 1 (c.toNat : Int)) = true := by
  revert c
  apply byte_cases
  cases u <;> decide +kernel
theorem schB_pos (i : Nat) (h : i ≠ 0) (c : Int) : schB i c = schB 1 c := by
  have h' : (i == 0) = false := by simpa using h
  simp [schB, h']
theorem step_sch (u : Bool) (c : UInt8) (i : Nat) : schB i ((step u c).toNat : Int) = schB i (c.toNat : Int) := by
  by_cases h : i = 0
  · subst h; exact eq_of_beq (step_sch_zero u c)
  · rw [schB_pos i h, schB_pos i h]; exact eq_of_beq (step_sch_one u c)
theorem sch_tok_one (c : UInt8) : (!schB 1 (c.toNat : Int) || tokB (c.toNat : Int)) = true := by
  revert c
  apply byte_cases
  decide +kernel
theorem sch_tok_zero (c : UInt8) : (!schB 0 (c.toNat : Int) || tokB (c.toNat : Int)) = true := by
  revert c
  apply byte_cases
  decide +kernel

theorem allTok_iff (l : List UInt8) : allTok l = true ↔ ∀ i, i < l.length → tokB ((l.getD i 0).toNat : Int) = true := by
  unfold allTok
  rw [List.all_eq_true]
  constructor
  · intro h i hi
    have := h l[i] (List.getElem_mem hi)
    simpa [List.getD_eq_getElem?_getD, hi] using this
  · intro h x hx
    obtain ⟨i, hi, rfl⟩ := List.getElem_of_mem hx
    have := h i hi
    simpa [List.getD_eq_getElem?_getD, hi] using this
theorem isSch_iff (l : List UInt8) : isSch l = true ↔ l ≠ [] ∧ ∀ i, i < l.length → schB i ((l.getD i 0).toNat : Int) = true := by
  simp [isSch]

/-- Canonicalisation neither makes nor unmakes a token. -/
theorem canon_tok (l : List UInt8) : isTok (canon l) = isTok l := by
  unfold canon
  split
  · rename_i h
    have h2 : allTok (canonL l) = true := (allTok_iff _).2 fun i hi => by
      have hi' : i < l.length := by rw [canonL_length] at hi; exact hi
      rw [canonL_getD l i hi']
      have h1 := (allTok_iff l).1 h i hi'
      have := step_tok (up l i) (l.getD i 0)
      rw [h1] at this
      simpa using this
    have h3 : (canonL l).isEmpty = l.isEmpty := by
      rw [Bool.eq_iff_iff, List.isEmpty_iff_length_eq_zero, List.isEmpty_iff_length_eq_zero, canonL_length]
    unfold isTok
    rw [h2, h3, h]
  · rfl
/-- .. nor a scheme. -/
theorem canon_sch (l : List UInt8) : isSch (canon l) = isSch l := by
  unfold canon
  split
  · have h3 : (canonL l).isEmpty = l.isEmpty := by
      rw [Bool.eq_iff_iff, List.isEmpty_iff_length_eq_zero, List.isEmpty_iff_length_eq_zero, canonL_length]
    unfold isSch
    rw [h3, canonL_length]
    congr 1
    rw [Bool.eq_iff_iff, List.all_eq_true, List.all_eq_true]
    constructor
    · intro h i hi
      have hi' := List.mem_range.1 hi
      have := h i hi
      rw [canonL_getD l i hi', step_sch] at this
      exact this
    · intro h i hi
      have hi' := List.mem_range.1 hi
      rw [canonL_getD l i hi', step_sch]
      exact h i hi
  · rfl
/-- Every scheme is a token. -/
theorem sch_tok (l : List UInt8) (h : isSch l = true) : isTok l = true := by
  obtain ⟨h1, h2⟩ := (isSch_iff l).1 h
  unfold isTok
  have ha : allTok l = true := (allTok_iff l).2 fun i hi => by
    have := h2 i hi
    by_cases hz : i = 0
    · subst hz
      have h' := sch_tok_zero (l.getD 0 0)
      rw [this] at h'
      simpa using h'
    · rw [schB_pos i hz] at this
      have h' := sch_tok_one (l.getD i 0)
      rw [this] at h'
      simpa using h'
  rw [ha]
  simp [h1]

/-- 'lowerByteWebB1'. -/
def lowOf (c : Int) : Int := if upB c then c + 32 else c
theorem step_low (u : Bool) (c : UInt8) : (lowOf ((step u c).toNat : Int) == lowOf (c.toNat : Int)) = true := by
  revert c
  apply byte_cases
  cases u <;> decide +kernel
theorem step_case (u : Bool) (c : UInt8) : (!(upB ((step u c).toNat : Int) || lowB ((step u c).toNat : Int)) || upB ((step u c).toNat : Int) == u) = true := by
  revert c
  apply byte_cases
  cases u <;> decide +kernel
end Go.Proofs.Qxb6600093a
