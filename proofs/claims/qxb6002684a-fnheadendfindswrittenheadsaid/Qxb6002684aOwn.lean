import Derived.Test.Qxb6002684aRows
import Derived.WalkKit
import Derived.WalkSpells
import Derived.WalkLawsBesides
import Derived.Lib.AppendStr
namespace Go.Proofs.Qxb6002684a
open Go.RowKit
set_option linter.unusedSimpArgs false

/-- Below B nothing has turned, and every row of the call's own that holds no bytes stands as it stood. -/
def Keeps (B : Nat) (w w' : World) : Prop :=
  Below B w w' ∧ ∀ e s u m ys, e ≠ 5 → w.ownsRow B e s u m ys → w'.ownsRow B e s u m ys

theorem Keeps.refl (B : Nat) (w : World) : Keeps B w w := ⟨Below.refl _ _, fun _ _ _ _ _ _ h => h⟩
theorem Keeps.trans {B : Nat} {a b c : World} (h : Keeps B a b) (k : Keeps B b c) : Keeps B a c := ⟨h.1.trans k.1, fun e s u m ys he ho => k.2 e s u m ys he (h.2 e s u m ys he ho)⟩
theorem Keeps.alloc {B : Nat} {a w : World} (h : Keeps B a w) (hB : B ≤ w.heap.size) (o : Obj) : Keeps B a (w.alloc o) := h.trans ⟨(Below.refl _ _).alloc hB o, fun _ _ _ _ _ _ ho => ho.alloc o⟩
theorem own_apart {w : World} {B e s m : Nat} {u : Value} {ys : List Value} {B' e' s' m' : Nat} {u' : Value} {ys' : List Value} (he : e ≠ e') (h : w.ownsRow B e s u m ys) (h' : w.ownsRow B' e' s' u' m' ys') : u.ownBlock = none ∨ u.ownBlock ≠ u'.ownBlock := by
  rcases h.2 with ⟨rfl, _⟩ | ⟨g, cap, cur, rfl, _, hg, _⟩
  · exact .inl rfl
  · refine .inr fun hh => ?_
    rcases h'.2 with ⟨rfl, _⟩ | ⟨g', cap', cur', rfl, _, hg', _⟩
    · simp [Value.ownBlock] at hh
    · simp only [Value.ownBlock, Option.some.injEq] at hh
      subst hh
      rw [hg] at hg'
      simp at hg'
      exact he hg'.2
theorem Keeps.grown {B : Nat} {a w w' : World} {v : Value} {n : Nat} {xs : List Value} (h : Keeps B a w) (ho : w.ownsRow B 5 1 v n xs) (hg : w.grownBy w' v.ownBlock) (hB : B ≤ w.heap.size) : Keeps B a w' :=
  h.trans ⟨(Below.refl _ _).grown hg hB (fun k hk => (ho.lt k hk).1), fun _ _ _ _ _ he hu => hu.kept hg (own_apart he hu ho)⟩
theorem Keeps.size {B : Nat} {w w' : World} (h : Keeps B w w') : w.heap.size ≤ w'.heap.size := h.1.size

theorem Try.info5' : (Try.prog.info? 5).map (fun i => (i.zero, i.size, i.bytes)) = some (some (.int .u8 0), 1, 1) := by kernel_rfl

/-- A field's line, as cells. -/
def lineCells (a b : ByteArray) : List Value := Lib.strCells a ++ [.int .u8 58, .int .u8 32] ++ Lib.strCells b ++ [.int .u8 13, .int .u8 10]
theorem lineCells_length (a b : ByteArray) : (lineCells a b).length = a.size + b.size + 4 := by
  simp [lineCells, Lib.strCells_length]; omega

theorem size_cs : (⟨#[58, 32]⟩ : ByteArray).size = 2 := rfl
theorem size_crlf : (⟨#[13, 10]⟩ : ByteArray).size = 2 := rfl
theorem field_step {B X : Nat} {w0 w w' : World} {v v' : Value} {n m : Nat} {xs ys zs : List Value} (hB : B ≤ w0.heap.size) (ho : Hid (w.ownsRow B 5 1 v n xs)) (hk : Hid (Keeps B w0 w)) (hb : Hid (w.ownsRow B 47 2 (.slice (some ⟨X, 0, none⟩) 1 1) 1 zs))
    (ho' : w'.ownsRow B 5 1 v' m ys) (hg : w.grownBy w' v.ownBlock) : Hid (w'.ownsRow B 5 1 v' m ys) ∧ Hid (Keeps B w0 w') ∧ Hid (w'.ownsRow B 47 2 (.slice (some ⟨X, 0, none⟩) 1 1) 1 zs) ∧ B ≤ w'.heap.size := by
  have hs := hk.out.size
  have h := hk.out.grown ho.out hg (by omega)
  exact ⟨ho', h, ((Keeps.refl B _).grown ho.out hg (by omega)).2 _ _ _ _ _ (by decide) hb.out, by have := h.size; omega⟩
theorem field_cell {B X : Nat} {w : World} {a b : Value} (hb : Hid (w.ownsRow B 47 2 (.slice (some ⟨X, 0, none⟩) 1 1) 1 [a, b])) : w.cell? ⟨X, 1, none⟩ = some b := by
  rw [hb.out.cellAt 1 (by omega)]; rfl

set_option maxHeartbeats 1000000 in
theorem field_any (B : Nat) (v : Value) (n : Nat) (xs : List Value) (a b : ByteArray) (w : World) (hB : B ≤ w.heap.size) (ho : w.ownsRow B 5 1 v n xs) (hn : n + a.size + b.size + 4 ≤ 1073741824) :
    Calls Try.prog 38 #[v, .agg #[.string a, .string b]] w fun e w' => ∃ v', e = .returned v' ∧ w'.ownsRow B 5 1 v' (n + (lineCells a b).length) (xs ++ lineCells a b) ∧ Keeps B w w' := by
  obtain ⟨i0, hi, hz0, hz1, hz2⟩ := info_parts Try.info5'
  have HO : Hid ((w.alloc (.cells #[.string a, .string b] 47)).ownsRow B 5 1 v n xs) := ho.alloc (.cells #[.string a, .string b] 47)
  have HK : Hid (Keeps B w (w.alloc (.cells #[.string a, .string b] 47))) := (Keeps.refl B w).alloc hB (.cells #[.string a, .string b] 47)
  have HB : Hid ((w.alloc (.cells #[.string a, .string b] 47)).ownsRow B 47 2 (.slice (some ⟨w.heap.size, 0, none⟩) 1 1) 1 [.string a, .string b]) := World.ownsRow_lit (size := 2) (base := B) (e := 47) w #[.string a, .string b] 1 hB (by unfold maxLen; omega) rfl
  clear ho
  go_enter Try.func38, Try.ntmps38
  go_wp2_with (first | (at_builtin; refine Lib.wpList_append_own_string _ rfl (.tmp 5) (.tmp 7) 29 9 rfl B 5 i0 Try.underlying29 Try.underlying9 hi hz0 hz1 hz2 v n xs rfl HO.out a rfl (by unfold maxLen; omega) (by omega) (by simp; omega) ?_; intro v1 w1 ho1 hg1 _; obtain ⟨HO1, HK1, HB1, hs1⟩ := field_step hB HO HK HB ho1 hg1; clear ho1 hg1) | (at_builtin; refine Lib.wpList_append_own_string _ rfl (.tmp 9) (.const (.string ⟨#[58, 32]⟩)) 29 9 rfl B 5 i0 Try.underlying29 Try.underlying9 hi hz0 hz1 hz2 v1 _ _ rfl HO1.out ⟨#[58, 32]⟩ rfl (by simp only [size_cs, size_crlf, maxLen]; omega) (by simp only [size_cs, size_crlf]; omega) (by omega) ?_; intro v2 w2 ho2 hg2 _; obtain ⟨HO2, HK2, HB2, hs2⟩ := field_step hB HO1 HK1 HB1 ho2 hg2; have hc2 := field_cell HB2; clear ho2 hg2) | (at_builtin; refine Lib.wpList_append_own_string _ rfl (.tmp 11) (.tmp 13) 29 9 rfl B 5 i0 Try.underlying29 Try.underlying9 hi hz0 hz1 hz2 v2 _ _ rfl HO2.out b rfl (by simp only [size_cs, size_crlf, maxLen]; omega) (by simp only [size_cs, size_crlf]; omega) (by omega) ?_; intro v3 w3 ho3 hg3 _; obtain ⟨HO3, HK3, HB3, hs3⟩ := field_step hB HO2 HK2 HB2 ho3 hg3; clear ho3 hg3) | (at_builtin; refine Lib.wpList_append_own_string _ rfl (.tmp 15) (.const (.string ⟨#[13, 10]⟩)) 29 9 rfl B 5 i0 Try.underlying29 Try.underlying9 hi hz0 hz1 hz2 v3 _ _ rfl HO3.out ⟨#[13, 10]⟩ rfl (by simp only [size_cs, size_crlf, maxLen]; omega) (by simp only [size_cs, size_crlf]; omega) (by omega) ?_; intro v4 w4 ho4 hg4 _; obtain ⟨HO4, HK4, HB4, hs4⟩ := field_step hB HO3 HK3 HB3 ho4 hg4; clear ho4 hg4))
  go_ret
  refine ⟨v4, rfl, ?_, HK4.out⟩
  have h := HO4.out
  have e1 : n + a.size + (⟨#[58, 32]⟩ : ByteArray).size + b.size + (⟨#[13, 10]⟩ : ByteArray).size = n + (lineCells a b).length := by rw [lineCells_length, size_cs, size_crlf]; omega
  have e2 : xs ++ Lib.strCells a ++ Lib.strCells ⟨#[58, 32]⟩ ++ Lib.strCells b ++ Lib.strCells ⟨#[13, 10]⟩ = xs ++ lineCells a b := by simp [lineCells, Lib.strCells]
  rw [← e1, ← e2]
  exact h
end Go.Proofs.Qxb6002684a
