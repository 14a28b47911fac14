import GoSem.Op.String
namespace Go.Proofs.Qxb6600163a

/-- A text's bytes are ASCII digits. -/
def Dig (l : List UInt8) : Prop := ∀ b ∈ l, 48 ≤ b.toNat ∧ b.toNat ≤ 57
/-- The number that a text of digits writes. -/
def val (l : List UInt8) : Nat := l.foldl (fun a b => a * 10 + (b.toNat - 48)) 0

theorem foldl_val (l : List UInt8) (a : Nat) : l.foldl (fun a b => a * 10 + (b.toNat - 48)) a = a * 10 ^ l.length + val l := by
  induction l generalizing a with
  | nil => simp [val]
  | cons b l ih =>
    show l.foldl (fun a b => a * 10 + (b.toNat - 48)) (a * 10 + (b.toNat - 48)) = a * 10 ^ (l.length + 1) + l.foldl (fun a b => a * 10 + (b.toNat - 48)) (0 * 10 + (b.toNat - 48))
    rw [ih, ih (0 * 10 + (b.toNat - 48)), Nat.pow_succ]
    have e : (a * 10 + (b.toNat - 48)) * 10 ^ l.length = a * (10 ^ l.length * 10) + (b.toNat - 48) * 10 ^ l.length := by
      rw [Nat.add_mul, Nat.mul_assoc, Nat.mul_comm 10 (10 ^ l.length)]
    rw [e]
    simp
    omega
theorem val_nil : val [] = 0 := rfl
theorem val_cons (b : UInt8) (l : List UInt8) : val (b :: l) = (b.toNat - 48) * 10 ^ l.length + val l := by
  have := foldl_val l (0 * 10 + (b.toNat - 48))
  simp only [val, List.foldl_cons] at this ⊢
  rw [this]
  simp
theorem val_snoc (l : List UInt8) (b : UInt8) : val (l ++ [b]) = val l * 10 + (b.toNat - 48) := by
  simp [val, List.foldl_append]
theorem Dig.cons {b : UInt8} {l : List UInt8} (h : Dig (b :: l)) : (48 ≤ b.toNat ∧ b.toNat ≤ 57) ∧ Dig l := ⟨h b (by simp), fun x hx => h x (by simp [hx])⟩
theorem val_lt : ∀ (l : List UInt8), Dig l → val l < 10 ^ l.length
  | [], _ => by simp [val]
  | b :: l, h => by
    have ih := val_lt l h.cons.2
    have hb := h.cons.1
    rw [val_cons, List.length_cons, Nat.pow_succ]
    have h9 : (b.toNat - 48) * 10 ^ l.length ≤ 9 * 10 ^ l.length := Nat.mul_le_mul_right _ (by omega)
    omega
theorem val_take_le (l : List UInt8) (k : Nat) : val (l.take k) ≤ val l := by
  have : val l = val (l.take k ++ l.drop k) := by rw [List.take_append_drop]
  rw [this]
  have h := foldl_val (l.drop k) (val (l.take k))
  have e : val (l.take k ++ l.drop k) = (l.drop k).foldl (fun a b => a * 10 + (b.toNat - 48)) (val (l.take k)) := by
    show (l.take k ++ l.drop k).foldl _ 0 = _
    rw [List.foldl_append]
    rfl
  rw [e, h]
  have : 0 < 10 ^ (l.drop k).length := Nat.pow_pos (by omega)
  have := Nat.le_mul_of_pos_right (val (l.take k)) this
  omega

/-- No leading zero, but a lone one. -/
def Bare (l : List UInt8) : Prop := l ≠ [] ∧ (l.length = 1 ∨ ∀ b, l.head? = some b → b.toNat ≠ 48)

theorem bare_ge {l : List UInt8} (hd : Dig l) (hb : Bare l) (h2 : 2 ≤ l.length) : 10 ^ (l.length - 1) ≤ val l := by
  match l, hd, hb with
  | b :: l, hd, hb =>
    have h1 := hd.cons.1
    rcases hb.2 with h | h
    · omega
    · have := h b rfl
      rw [val_cons]
      simp only [List.length_cons, Nat.add_sub_cancel]
      have : 1 * 10 ^ l.length ≤ (b.toNat - 48) * 10 ^ l.length := Nat.mul_le_mul_right _ (by omega)
      omega

theorem eq_of_val : ∀ (a b : List UInt8), Dig a → Dig b → a.length = b.length → val a = val b → a = b
  | [], [], _, _, _, _ => rfl
  | x :: a, y :: b, ha, hb, hl, hv => by
    have hl' : a.length = b.length := by simpa using hl
    rw [val_cons, val_cons, hl'] at hv
    have h1 := val_lt a ha.cons.2
    have h2 := val_lt b hb.cons.2
    rw [hl'] at h1
    have hx := ha.cons.1
    have hy := hb.cons.1
    have hpos : 0 < 10 ^ b.length := Nat.pow_pos (by omega)
    have hxy : x.toNat - 48 = y.toNat - 48 := by
      have e1 : (val a + 10 ^ b.length * (x.toNat - 48)) / 10 ^ b.length = x.toNat - 48 := by rw [Nat.add_mul_div_left _ _ hpos, Nat.div_eq_of_lt h1]; omega
      have e2 : (val b + 10 ^ b.length * (y.toNat - 48)) / 10 ^ b.length = y.toNat - 48 := by rw [Nat.add_mul_div_left _ _ hpos, Nat.div_eq_of_lt h2]; omega
      rw [← e1, ← e2]
      congr 1
      rw [Nat.mul_comm (10 ^ b.length), Nat.mul_comm (10 ^ b.length)]
      omega
    have hxy' : x = y := UInt8.toNat_inj.1 (by omega)
    subst hxy'
    have hv' : val a = val b := by omega
    rw [eq_of_val a b ha.cons.2 hb.cons.2 hl' hv']

theorem bare_unique {a b : List UInt8} (ha : Dig a) (hb : Dig b) (ba : Bare a) (bb : Bare b) (hv : val a = val b) : a = b := by
  have key : ∀ {a b : List UInt8}, Dig a → Dig b → Bare a → Bare b → val a = val b → a.length ≤ b.length := by
    intro a b ha hb ba bb hv
    by_cases h : a.length ≤ b.length
    · exact h
    · have hpos : 0 < b.length := List.length_pos_iff.2 bb.1
      have h1 := bare_ge ha ba (by omega)
      have h2 := val_lt b hb
      have h3 : 10 ^ b.length ≤ 10 ^ (a.length - 1) := Nat.pow_le_pow_right (by omega) (by omega)
      omega
  exact eq_of_val a b ha hb (Nat.le_antisymm (key ha hb ba bb hv) (key hb ha bb ba hv.symm)) hv

/-- On digits of one length the order of the bytes is the order of the numbers. -/
theorem less_val : ∀ (a b : List UInt8), Dig a → Dig b → a.length = b.length → Op.bytesLess a b = decide (val a < val b)
  | [], [], _, _, _ => rfl
  | x :: a, y :: b, ha, hb, hl => by
    have hl' : a.length = b.length := by simpa using hl
    have ih := less_val a b ha.cons.2 hb.cons.2 hl'
    have h1 := val_lt a ha.cons.2
    have h2 := val_lt b hb.cons.2
    rw [hl'] at h1
    have hx := ha.cons.1
    have hy := hb.cons.1
    have hpos : 0 < 10 ^ b.length := Nat.pow_pos (by omega)
    rw [Op.bytesLess, ih, val_cons, val_cons, hl']
    rcases Nat.lt_trichotomy x.toNat y.toNat with h | h | h
    · have hlt : x < y := UInt8.lt_iff_toNat_lt.2 h
      have h3 : (x.toNat - 48 + 1) * 10 ^ b.length ≤ (y.toNat - 48) * 10 ^ b.length := Nat.mul_le_mul_right _ (by omega)
      rw [Nat.add_mul] at h3
      have h4 : (x.toNat - 48) * 10 ^ b.length + val a < (y.toNat - 48) * 10 ^ b.length + val b := by omega
      simp [hlt, h4]
    · have hxy : x = y := UInt8.toNat_inj.1 h
      subst hxy
      have hn : ¬ x < x := by simp
      simp
    · have hlt : ¬ x < y := fun h' => by have := UInt8.lt_iff_toNat_lt.1 h'; omega
      have hne : (x == y) = false := by simp; intro e; subst e; omega
      have h3 : (y.toNat - 48 + 1) * 10 ^ b.length ≤ (x.toNat - 48) * 10 ^ b.length := Nat.mul_le_mul_right _ (by omega)
      rw [Nat.add_mul] at h3
      have h4 : ¬ ((x.toNat - 48) * 10 ^ b.length + val a < (y.toNat - 48) * 10 ^ b.length + val b) := by omega
      simp [hlt, hne, h4]

/-- The greatest int64, behind a name. -/
def maxI : Nat := 9223372036854775807
def maxText : List UInt8 := [57, 50, 50, 51, 51, 55, 50, 48, 51, 54, 56, 53, 52, 55, 55, 53, 56, 48, 55]
theorem maxText_val : val maxText = maxI := by decide
theorem maxText_dig : Dig maxText := by unfold Dig maxText; decide

/-- 'fits', as the law writes it, is 'the number is at most the greatest int64'. -/
theorem fits_val {t : List UInt8} (hd : Dig t) (hb : Bare t) :
    (decide (t.length < 19) || (decide (t.length = 19) && (Op.bytesLess t maxText || t == maxText))) = decide (val t ≤ maxI) := by
  rcases Nat.lt_trichotomy t.length 19 with h | h | h
  · have h1 := val_lt t hd
    have h2 : 10 ^ t.length ≤ 10 ^ 18 := Nat.pow_le_pow_right (by omega) (by omega)
    have h3 : val t ≤ maxI := by unfold maxI; omega
    simp [h, h3]
  · have hl : t.length = maxText.length := h
    have h0 : ¬ t.length < 19 := by omega
    rw [less_val t maxText hd maxText_dig hl, maxText_val]
    by_cases he : t = maxText
    · have hv : val t ≤ maxI := by rw [he, maxText_val]; exact Nat.le_refl _
      simp [he]
      decide
    · have hne : val t ≠ maxI := fun hv => he (eq_of_val t maxText hd maxText_dig hl (by rw [hv, maxText_val]))
      have he' : (t == maxText) = false := by simpa using he
      rw [he', h]
      by_cases hv : val t < maxI
      · have : val t ≤ maxI := by omega
        simp [hv, this]
      · have : ¬ val t ≤ maxI := by omega
        simp [hv, this]
  · have h1 := bare_ge hd hb (by omega)
    have h2 : 10 ^ 19 ≤ 10 ^ (t.length - 1) := Nat.pow_le_pow_right (by omega) (by omega)
    have h3 : ¬ val t ≤ maxI := by unfold maxI; omega
    have h4 : ¬ t.length < 19 := by omega
    have h5 : ¬ t.length = 19 := by omega
    simp [h3, h4, h5]
end Go.Proofs.Qxb6600163a
