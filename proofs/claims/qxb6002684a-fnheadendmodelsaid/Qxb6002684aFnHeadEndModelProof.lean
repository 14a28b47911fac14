import Derived.Test.Qxb6002684aRows
import Derived.WalkKit
import Derived.ProofKit
import Derived.OpenShut
import Derived.ShutString
import Derived.ChangeOld
import Derived.Below
import Derived.Test.Qxb6002684aClone
import Derived.Test.Qxb6002684aHead
namespace Go.Proofs.Qxb6002684a.fnHeadEndModel
open Go.ChangeShapes Go.WideShapes Go.ChangeAt Go.RowKit
open Go.ChangeMaps (open_string shut_string)
set_option linter.unusedVariables false

theorem own : ownKnob Try.prog.godebug = none := by kernel_rfl
theorem laidOut : laidOutB Try.prog = true := by kernel_rfl

/-- WHAT THE WALK IS TOLD OF A SLICE OF INTEGERS THAT CAME IN: it is nil; or it leads to a row of 'cap' cells, the numbers 'zs' (the first 'len' are its elements, the rest its spare room), each fitting its kind. -/
def IsRow (k : IntKind) (w : World) (a : Option Addr) (len cap : Nat) (zs : List Int) : Prop :=
  (a = none ∧ len = 0 ∧ cap = 0 ∧ zs = []) ∨
  ∃ x, a = some x ∧ len ≤ cap ∧ cap ≤ maxLen ∧ zs.length = cap ∧ (∀ i, i < zs.length → w.cell? (x.add i) = some (.int k (zs.getD i 0))) ∧ ∀ n ∈ zs, (Lit.int k n).wf = true

theorem walk (a0 : Option Addr) (len0 cap0 : Nat) (z0 : List Int) (w : World) (w0 : IsRow .u8 w a0 len0 cap0 z0) :
    Calls Try.prog 5 #[.slice a0 len0 cap0] w fun e w' => e = .returned (.bool true) ∧ Below w.heap.size w w' := by
  rcases w0 with ⟨rfl, rfl, rfl, rfl⟩ | ⟨x, rfl, hlc, hcm, hz, hcell, hwf⟩
  · go_enter Try.func5, Try.ntmps5
    go_wp2_with (first | (go_at_call 16; refine (clone_nil _).mono ?_; rintro e w' ⟨rfl, rfl⟩) | (go_at_call 18; refine (zzhead_nil _).mono ?_; rintro e w' ⟨rfl, rfl⟩) | go_in)
    refine wp_loop_rounds 1 ?_
    rw [rounds_succ]
    go_wp2_with (first | (go_at_call 18; refine (zzhead_nil _).mono ?_; rintro e w' ⟨rfl, rfl⟩) | go_in)
    go_ret
    exact ⟨rfl, Below.refl _ _⟩
  · unfold maxLen at hcm
    by_cases hbig : 1048576 < len0
    · have hbig' : (1048576 : Int) < (len0 : Int) := by omega
      clear hcell hwf
      go_enter Try.func5, Try.ntmps5
      go_wp2_with (first | go_in)
      go_ret
      exact ⟨rfl, Below.refl _ _⟩
    · have hbig' : (len0 : Int) ≤ 1048576 := by omega
      have hn : len0 ≤ 1048576 := by omega
      have HC : Hid (Calls Try.prog 16 #[.slice (some x) len0 cap0] w fun e w' => e = .returned (.slice (some ⟨w.heap.size, 0, none⟩) len0 len0) ∧ Below w.heap.size w w' ∧ w.heap.size < w'.heap.size ∧
        ∀ i, i < len0 → w'.cell? ⟨w.heap.size, i, none⟩ = some (.int .u8 (z0.getD i 0))) := clone_some x len0 cap0 z0 w hn (by omega) hcell
      have hby : ∀ k, k < len0 → 0 ≤ (z0.take len0).getD k 0 ∧ (z0.take len0).getD k 0 ≤ 255 := fun k hk => by
        have hkl : k < z0.length := by omega
        have e : (z0.take len0).getD k 0 = z0[k] := by simp [List.getD_eq_getElem?_getD, hk, hkl]
        rw [e]
        have := hwf z0[k] (List.getElem_mem hkl)
        have := bounds_u8 this
        omega
      have HB : Hid _ := hby
      have HZ : Hid (z0.length = cap0) := hz
      clear hcell hwf hby hz
      go_enter Try.func5, Try.ntmps5
      go_wp2_with (first | (go_at_call 16; refine Calls.mono HC.out ?_; rintro e w1 ⟨rfl, hb1, hsz, hcl⟩) | (go_at_call 15; go_in))
      have hcl' : ∀ i, i < len0 → w1.cell? ⟨w.heap.size, i, none⟩ = some (.int .u8 ((z0.take len0).getD i 0)) := fun i hi => by
        rw [hcl i hi]; simp [List.getD_eq_getElem?_getD, hi]
      have HL : Hid _ := hcl'
      have HW : Hid _ := hb1
      clear hcl hcl' hb1
      go_loop [3, 4] (fun a i => a = .int .i64 0 ∧ ∃ k : Nat, 2 ≤ k ∧ k ≤ len0 + 2 ∧ i = .int .i64 k ∧ ∀ m, 2 ≤ m → m < k → m ≤ len0 → ¬ Ends (z0.take len0) m) (fun _ i => len0 + 2 - (intOf i).toNat)
      case atStart => exact ⟨rfl, 2, by omega, by omega, rfl, by omega⟩
      case round =>
        obtain ⟨rfl, k, hk2, hkl, rfl, hno⟩ := hrel
        have HN : Hid _ := hno
        clear hno
        by_cases hlt : k ≤ len0
        · by_cases he : endsB (z0.take len0) k = true
          · go_wp2_with (first | (go_at_call 17; refine (ends_any _ _ _ k (z0.take len0) _ hn hk2 hlt HL.out).mono ?_; rintro e w' ⟨rfl, rfl⟩) | (go_at_call 18; refine (zzhead_any _ _ _ (z0.take len0) _ (by omega) (by rw [List.length_take, HZ.out]; omega) (Nat.le_refl _) HB.out HL.out).mono ?_; rintro e w' ⟨r, rfl, hr, rfl⟩))
            go_ret
            have hrk : r = k := head_least hr hlt ((endsB_iff _ _).1 he) (fun m h2 hm => HN.out m h2 hm (by omega))
            exact ⟨ret_bool (by simp [hrk]), HW.out⟩
          · have he' : endsB (z0.take len0) k = false := by simpa using he
            have HE : Hid (¬ endsB (z0.take len0) k = true) := he
            clear he
            go_wp2_with (first | (go_at_call 17; refine (ends_any _ _ _ k (z0.take len0) _ hn hk2 hlt HL.out).mono ?_; rintro e w' ⟨rfl, rfl⟩))
            go_round
            case rel =>
              refine ⟨rfl, k + 1, by omega, by omega, by go_num, fun m h2 hm hml => ?_⟩
              by_cases hmk : m = k
              · subst hmk; exact fun h => HE.out ((endsB_iff _ _).2 h)
              · exact HN.out m h2 (by omega) hml
            case measure => simp [intOf]; omega
        · go_wp2_with (first | (go_at_call 18; refine (zzhead_any _ _ _ (z0.take len0) _ (by omega) (by rw [List.length_take, HZ.out]; omega) (Nat.le_refl _) HB.out HL.out).mono ?_; rintro e w' ⟨r, rfl, hr, rfl⟩))
          go_ret
          have hr0 : r = 0 := head_none hr (fun m h2 hm => HN.out m h2 (by omega) hm)
          exact ⟨ret_bool (by simp [hr0]), HW.out⟩

set_option maxRecDepth 100000 in
theorem lifted (os : Os) (started : os.Started) (H : Type) (enc : TypeId × Value → H) :
    ReturnsInHanded {} Try.checked os 5 .any (Rows.fnHeadEndModelSpec.pre6 enc Try.prog Try.f5 Rows.fnHeadEndModelRow.domain false) (Rows.fnHeadEndModelSpec.post enc Try.prog Try.f5 false true false false) := by
  refine returnsInHanded_of_change (C := Try.checked) own started (by kernel_rfl) Try.func5
    (ChangeSpec.witness6 (enc := enc) (C := Try.checked) false ⟨#[], #[.slice none 0 0], []⟩ 8 (by kernel_rfl) (by kernel_rfl) (by kernel_rfl) (by kernel_rfl)) ?_
  intro W base args ds gs before hval0 hW hcnd _
  have hval : ∀ (j : Nat) t v, Try.f5.params[j]? = some t → args[j]? = some v → Value.okWide Try.prog W .any base t v := hval0
  have hW' := hW
  obtain ⟨p, q, hA0, hV, rfl, hfz, hnd⟩ := hW
  have hA : DataW.TrodAll enc Try.prog W 0 (fun _ => true) true Try.f5.params.toList args.toList ds p := hA0
  rw [Try.params5] at hA hval
  obtain ⟨v0, vs0, d0, ds0, p0, q0, hargs, rfl, rfl, h0, r0⟩ := trodAll_cons hA
  obtain ⟨rfl, rfl, rfl⟩ := trodAll_nil r0
  obtain rfl : args = #[v0] := by cases args; simp_all
  obtain ⟨rfl, rfl⟩ := trodVars_none hV
  obtain ⟨a0, len0, cap0, rfl⟩ := okWide_slice Try.underlying29 (hval 0 29 v0 rfl rfl)
  have k0 := h0
  have lt0 : ∀ x ∈ p0, x.block < W.heap.size := by obtain ⟨m, hm⟩ := k0; exact DataW.trod_lt m _ _ _ hm
  obtain ⟨z0, w0⟩ : ∃ zs, IsRow .u8 W a0 len0 cap0 zs := by
    obtain ⟨fuel, hf⟩ := h0
    rcases open_ints Try.underlying29 Try.underlying5 (by kernel_rfl) hf with ⟨hcs, _⟩ | ⟨x, l, c, zs, hcs, _, hl, hm, hz, _, hcell, hwz⟩
    · simp [Value.cells] at hcs
      obtain ⟨rfl, rfl, rfl⟩ := hcs
      exact ⟨[], .inl ⟨rfl, rfl, rfl, rfl⟩⟩
    · simp [Value.cells] at hcs
      obtain ⟨rfl, rfl, rfl⟩ := hcs
      exact ⟨zs, .inr ⟨_, rfl, hl, hm, by simpa using hz, hcell, hwz⟩⟩
  clear hA0 hval0
  refine (walk a0 len0 cap0 z0 W w0).mono fun e W' ⟨he, bel⟩ => ?_
  subst he
  exact ⟨_, rfl, _, _, _, [], _, [], hW', trodAll_mk1 (shut_bool Try.underlying4 _), (trodAll_cons_mk (Below.trod laidOut (by kernel_rfl) (of_decide_eq_true (by kernel_rfl)) k0 bel lt0) trodAll_mk0), rfl, bel.frame _, fun h => by cases h⟩

theorem over : Rows.fnHeadEndModelRow.holds Try.pinned (OpenSpec.ofChange Rows.fnHeadEndModelSpec) :=
  OpenClaim.holds_of_wide 5 Try.f5 rfl rfl rfl rfl rfl rfl rfl ⟨rfl, rfl, rfl, rfl, rfl⟩ rfl rfl rfl rfl rfl (by kernel_rfl) Try.func5 (by kernel_rfl)
    (of_decide_eq_true (by kernel_rfl)) (by unfold Func.isWrapper; first | (rw [if_pos (by decide +kernel)]; kernel_rfl) | (rw [if_neg (by decide +kernel)]; exact ⟨rfl, rfl⟩))
    (fun os started H enc _ => lifted os started H enc)

theorem proved : Rows.FnHeadEndModelSaid := over
end Go.Proofs.Qxb6002684a.fnHeadEndModel
