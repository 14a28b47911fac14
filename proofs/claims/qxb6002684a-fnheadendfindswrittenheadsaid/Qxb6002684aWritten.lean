import Derived.Test.Qxb6002684aPlain
namespace Go.Proofs.Qxb6002684a

/-- 'headEnd', plainly. -/
def hE : List Int → Option Nat
  | [] => none
  | x :: l => if x = 10 ∧ l.head? = some 10 then some 2 else if x = 10 ∧ l.take 2 = [13, 10] then some 3 else (hE l).map (· + 1)

theorem E2_succ (x : Int) (l : List Int) (p : Nat) : E2 (x :: l) (l.length + 1) (p + 1) ↔ E2 l l.length p := by
  simp [E2]
theorem E3_succ (x : Int) (l : List Int) (p : Nat) : E3 (x :: l) (l.length + 1) (p + 1) ↔ E3 l l.length p := by
  simp [E3]; omega
theorem E2_zero (x : Int) (l : List Int) : E2 (x :: l) (l.length + 1) 0 ↔ (x = 10 ∧ l.head? = some 10) := by
  cases l with
  | nil => simp [E2]
  | cons y l => simp [E2]
theorem E3_zero (x : Int) (l : List Int) : E3 (x :: l) (l.length + 1) 0 ↔ (x = 10 ∧ l.take 2 = [13, 10]) := by
  match l with
  | [] => simp [E3]
  | [y] => simp [E3]
  | y :: z :: l => simp [E3]

theorem hE_some : ∀ (xs : List Int) (m : Nat), hE xs = some m →
    ∃ p, ((m = p + 2 ∧ E2 xs xs.length p) ∨ (m = p + 3 ∧ E3 xs xs.length p ∧ ¬ E2 xs xs.length p)) ∧ ∀ q, q < p → ¬ E2 xs xs.length q ∧ ¬ E3 xs xs.length q
  | [], m, h => by simp [hE] at h
  | x :: l, m, h => by
    unfold hE at h
    split at h
    · rename_i h2
      simp at h
      exact ⟨0, .inl ⟨by omega, (E2_zero x l).2 h2⟩, by omega⟩
    · rename_i h2
      split at h
      · rename_i h3
        simp at h
        exact ⟨0, .inr ⟨by omega, (E3_zero x l).2 h3, fun h => h2 ((E2_zero x l).1 h)⟩, by omega⟩
      · rename_i h3
        simp only [Option.map_eq_some_iff] at h
        obtain ⟨m', hm', rfl⟩ := h
        obtain ⟨p, hp, hq⟩ := hE_some l m' hm'
        refine ⟨p + 1, ?_, ?_⟩
        · rcases hp with ⟨h1, h2⟩ | ⟨h1, h2, h3⟩
          · exact .inl ⟨by omega, (E2_succ x l p).2 h2⟩
          · exact .inr ⟨by omega, (E3_succ x l p).2 h2, fun h => h3 ((E2_succ x l p).1 h)⟩
        · intro q hq'
          match q, hq' with
          | 0, _ => exact ⟨fun h => h2 ((E2_zero x l).1 h), fun h => h3 ((E3_zero x l).1 h)⟩
          | q + 1, hq' => exact ⟨fun h => (hq q (by omega)).1 ((E2_succ x l q).1 h), fun h => (hq q (by omega)).2 ((E3_succ x l q).1 h)⟩

theorem head_is {xs : List Int} {r m : Nat} (h : IsHead xs xs.length r) (hm : hE xs = some m) : r = m := by
  obtain ⟨p, hp, hq⟩ := hE_some xs m hm
  rcases h with ⟨_, h⟩ | ⟨p', hp', hq'⟩
  · rcases hp with ⟨_, h2⟩ | ⟨_, h3, _⟩
    · exact absurd h2 (h p).1
    · exact absurd h3 (h p).2
  · have hpp : p = p' := by
      rcases Nat.lt_trichotomy p p' with hlt | rfl | hlt
      · rcases hp with ⟨_, h2⟩ | ⟨_, h3, _⟩
        · exact absurd h2 (hq' p hlt).1
        · exact absurd h3 (hq' p hlt).2
      · rfl
      · rcases hp' with ⟨_, h2⟩ | ⟨_, h3, _⟩
        · exact absurd h2 (hq p' hlt).1
        · exact absurd h3 (hq p' hlt).2
    subst hpp
    rcases hp with ⟨rfl, h2⟩ | ⟨rfl, h3, h2⟩
    · rcases hp' with ⟨rfl, _⟩ | ⟨_, _, h2'⟩
      · rfl
      · exact absurd h2 h2'
    · rcases hp' with ⟨_, h2'⟩ | ⟨rfl, _, _⟩
      · exact absurd h2' h2
      · rfl

theorem hE_skip (d l : List Int) (hd : ∀ x ∈ d, x ≠ 10) : hE (d ++ l) = (hE l).map (· + d.length) := by
  induction d with
  | nil => simp
  | cons x d ih =>
    have hx : x ≠ 10 := hd x (by simp)
    rw [List.cons_append, hE, if_neg (fun h => hx h.1), if_neg (fun h => hx h.1), ih (fun y hy => hd y (by simp [hy]))]
    rw [Option.map_map]
    congr 1

/-- A line that is not empty, behind a line feed. -/
theorem hE_line (d l : List Int) (hd : ∀ x ∈ d, x ≠ 10) (hne : d ≠ []) : hE (10 :: (d ++ [13, 10] ++ l)) = (hE (10 :: l)).map (· + (d.length + 2)) := by
  have h1 : ¬ ((d ++ [13, 10] ++ l).head? = some 10) := by
    cases d with
    | nil => exact absurd rfl hne
    | cons x d => simp; exact hd x (by simp)
  have h2 : ¬ ((d ++ [13, 10] ++ l).take 2 = [13, 10]) := by
    match d, hd, hne with
    | [x], _, _ => simp
    | x :: y :: d, hd, _ => simp; intro _; exact hd y (by simp)
  rw [hE, if_neg (fun h => h1 h.2), if_neg (fun h => h2 h.2)]
  have e : d ++ [13, 10] ++ l = (d ++ [13]) ++ (10 :: l) := by simp
  rw [e, hE_skip (d ++ [13]) (10 :: l) (by intro x hx; simp at hx; rcases hx with h | h; exact hd x h; omega), Option.map_map]
  congr 1
  funext k
  simp; omega

/-- The lines behind the start line, and the empty line. -/
theorem hE_lines : ∀ (ds : List (List Int)), (∀ d ∈ ds, d ≠ [] ∧ ∀ x ∈ d, x ≠ 10) → hE (10 :: (ds.flatMap (· ++ [13, 10]) ++ [13, 10])) = some ((ds.flatMap (· ++ [13, 10])).length + 3)
  | [], _ => by simp [hE]
  | d :: ds, h => by
    have hd := h d (by simp)
    have e : (d :: ds).flatMap (· ++ [13, 10]) ++ [13, 10] = d ++ [13, 10] ++ (ds.flatMap (· ++ [13, 10]) ++ [13, 10]) := by simp
    rw [e, hE_line d _ hd.2 hd.1, hE_lines ds (fun d' hd' => h d' (by simp [hd']))]
    simp only [Option.map_some, List.flatMap_cons, List.length_append, List.length_cons, List.length_nil]
    congr 1
    omega

theorem hE_whole (s : List Int) (ds : List (List Int)) (hs : ∀ x ∈ s, x ≠ 10) (h : ∀ d ∈ ds, d ≠ [] ∧ ∀ x ∈ d, x ≠ 10) :
    hE (s ++ [13, 10] ++ ds.flatMap (· ++ [13, 10]) ++ [13, 10]) = some (s ++ [13, 10] ++ ds.flatMap (· ++ [13, 10]) ++ [13, 10]).length := by
  have e : s ++ [13, 10] ++ ds.flatMap (· ++ [13, 10]) ++ [13, 10] = (s ++ [13]) ++ (10 :: (ds.flatMap (· ++ [13, 10]) ++ [13, 10])) := by simp
  rw [e, hE_skip (s ++ [13]) _ (by intro x hx; simp at hx; rcases hx with h | h; exact hs x h; omega), hE_lines ds h]
  simp only [Option.map_some, List.length_append, List.length_cons, List.length_nil]
  congr 1
  omega
end Go.Proofs.Qxb6002684a
