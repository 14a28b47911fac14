/-
  No cell of these rows narrows 'for every input' (looked for: loops, veiled, ifaces, maps, wideKeys, modest, calm, conditions, laid).
  DERIVED. THE GIVEN ROWS OF THIS SEAT. 9 by the template 'for every input the law returns true; each argument reads behind the call as it read before'; 0 by the template 'total and deterministic' (their statements: Qxb6600093aTotals.lean).
  GIVEN WITH THE SEED: the statements are not yours to turn. If you find one false, say at which input.
  Laid BY PROGRAM, IN A SANDBOX (cutbox-rows.mjs): the forced cells as the released guide's own fill.sh prints them over the translation c52911ccf90421a1… (all of the seat's roots in one cut). By AI agents, Wed Nov 11 2026. No macro, syntax, notation, axiom, sorry.
-/
import Derived.Test.Qxb6600093aChecked
import GoSem.Claim
import GoSem.ClaimJoined
import GoSem.ClaimMapViews
import Derived.JoinedTies
import Derived.KernelRfl
namespace Go.Proofs.Qxb6600093a
/- THE CELL 'sum', in the pinned program and in every row, IS THE sha256 OF THE DUMP (.gsa) THAT Qxb6600093aProg.lean LOADS. Nothing in Lean hashes anything: it is a label: what it is worth is what the hold of that sum in a sandbox is worth. -/
noncomputable def Try.pinned : Pinned := { name := "qxb6600093a", sum := "c52911ccf90421a138af2fc817b4abb4e83e61717ae4a162da72b573bd395368", checked := Try.checked }
namespace Rows
def none {H : Type} : Left H := { results := [], args := [] }

/-- 'zzlaws_internal_web_b1.FnCanonicalKeyIdempotent': WHATEVER THE INPUT: true; the input reads as it did. -/
def fnCanonicalKeyIdempotentSpec : ChangeSpec := { name := "fnCanonicalKeyIdempotent", fn := fun _ => fun
  | [d] => { results := [.lit (.bool true)], args := [d] }
  | _ => none }
def fnCanonicalKeyIdempotentRow : OpenClaim := { program := "qxb6600093a", sum := "c52911ccf90421a138af2fc817b4abb4e83e61717ae4a162da72b573bd395368", func := "example.com/backstay/backstay/zzlaws_internal_web_b1.FnCanonicalKeyIdempotent", spec := "fnCanonicalKeyIdempotent", inPlace := ["internal/bytealg.IndexByteString"], apart := false }
def FnCanonicalKeyIdempotentSaid : Prop := fnCanonicalKeyIdempotentRow.holds Try.pinned (OpenSpec.ofChange fnCanonicalKeyIdempotentSpec)

/-- ITS FALSE NEIGHBOUR: 'it returns false'. Refute it at one input. -/
def fnCanonicalKeyIdempotentWrong : ChangeSpec := { name := "fnCanonicalKeyIdempotent", fn := fun _ => fun
  | [d] => { results := [.lit (.bool false)], args := [d] }
  | _ => none }
def FnCanonicalKeyIdempotentWrongFalsely : Prop := fnCanonicalKeyIdempotentRow.holds Try.pinned (OpenSpec.ofChange fnCanonicalKeyIdempotentWrong)

/-- 'zzlaws_internal_web_b1.FnCanonicalKeySpec': WHATEVER THE INPUT: true; the input reads as it did. -/
def fnCanonicalKeySpecSpec : ChangeSpec := { name := "fnCanonicalKeySpec", fn := fun _ => fun
  | [d] => { results := [.lit (.bool true)], args := [d] }
  | _ => none }
def fnCanonicalKeySpecRow : OpenClaim := { program := "qxb6600093a", sum := "c52911ccf90421a138af2fc817b4abb4e83e61717ae4a162da72b573bd395368", func := "example.com/backstay/backstay/zzlaws_internal_web_b1.FnCanonicalKeySpec", spec := "fnCanonicalKeySpec", inPlace := ["internal/bytealg.IndexByteString"], apart := false }
def FnCanonicalKeySpecSaid : Prop := fnCanonicalKeySpecRow.holds Try.pinned (OpenSpec.ofChange fnCanonicalKeySpecSpec)

/-- ITS FALSE NEIGHBOUR: 'it returns false'. Refute it at one input. -/
def fnCanonicalKeySpecWrong : ChangeSpec := { name := "fnCanonicalKeySpec", fn := fun _ => fun
  | [d] => { results := [.lit (.bool false)], args := [d] }
  | _ => none }
def FnCanonicalKeySpecWrongFalsely : Prop := fnCanonicalKeySpecRow.holds Try.pinned (OpenSpec.ofChange fnCanonicalKeySpecWrong)

/-- 'zzlaws_internal_web_b1.FnCanonicalKeyFoldClass': WHATEVER THE INPUT: true; the input reads as it did. -/
def fnCanonicalKeyFoldClassSpec : ChangeSpec := { name := "fnCanonicalKeyFoldClass", fn := fun _ => fun
  | [d1, d2] => { results := [.lit (.bool true)], args := [d1, d2] }
  | _ => none }
def fnCanonicalKeyFoldClassRow : OpenClaim := { program := "qxb6600093a", sum := "c52911ccf90421a138af2fc817b4abb4e83e61717ae4a162da72b573bd395368", func := "example.com/backstay/backstay/zzlaws_internal_web_b1.FnCanonicalKeyFoldClass", spec := "fnCanonicalKeyFoldClass", inPlace := ["internal/bytealg.IndexByteString"], apart := false }
def FnCanonicalKeyFoldClassSaid : Prop := fnCanonicalKeyFoldClassRow.holds Try.pinned (OpenSpec.ofChange fnCanonicalKeyFoldClassSpec)

/-- ITS FALSE NEIGHBOUR: 'it returns false'. Refute it at one input. -/
def fnCanonicalKeyFoldClassWrong : ChangeSpec := { name := "fnCanonicalKeyFoldClass", fn := fun _ => fun
  | [d1, d2] => { results := [.lit (.bool false)], args := [d1, d2] }
  | _ => none }
def FnCanonicalKeyFoldClassWrongFalsely : Prop := fnCanonicalKeyFoldClassRow.holds Try.pinned (OpenSpec.ofChange fnCanonicalKeyFoldClassWrong)

/-- 'zzlaws_internal_web_b1.FnIsTokenSpec': WHATEVER THE INPUT: true; the input reads as it did. -/
def fnIsTokenSpecSpec : ChangeSpec := { name := "fnIsTokenSpec", fn := fun _ => fun
  | [d] => { results := [.lit (.bool true)], args := [d] }
  | _ => none }
def fnIsTokenSpecRow : OpenClaim := { program := "qxb6600093a", sum := "c52911ccf90421a138af2fc817b4abb4e83e61717ae4a162da72b573bd395368", func := "example.com/backstay/backstay/zzlaws_internal_web_b1.FnIsTokenSpec", spec := "fnIsTokenSpec", inPlace := ["internal/bytealg.IndexByteString"], apart := false }
def FnIsTokenSpecSaid : Prop := fnIsTokenSpecRow.holds Try.pinned (OpenSpec.ofChange fnIsTokenSpecSpec)

/-- ITS FALSE NEIGHBOUR: 'it returns false'. Refute it at one input. -/
def fnIsTokenSpecWrong : ChangeSpec := { name := "fnIsTokenSpec", fn := fun _ => fun
  | [d] => { results := [.lit (.bool false)], args := [d] }
  | _ => none }
def FnIsTokenSpecWrongFalsely : Prop := fnIsTokenSpecRow.holds Try.pinned (OpenSpec.ofChange fnIsTokenSpecWrong)

/-- 'zzlaws_internal_web_b1.FnIsTokenConcat': WHATEVER THE INPUT: true; the input reads as it did. -/
def fnIsTokenConcatSpec : ChangeSpec := { name := "fnIsTokenConcat", fn := fun _ => fun
  | [d1, d2] => { results := [.lit (.bool true)], args := [d1, d2] }
  | _ => none }
def fnIsTokenConcatRow : OpenClaim := { program := "qxb6600093a", sum := "c52911ccf90421a138af2fc817b4abb4e83e61717ae4a162da72b573bd395368", func := "example.com/backstay/backstay/zzlaws_internal_web_b1.FnIsTokenConcat", spec := "fnIsTokenConcat", inPlace := ["internal/bytealg.IndexByteString"], apart := false }
def FnIsTokenConcatSaid : Prop := fnIsTokenConcatRow.holds Try.pinned (OpenSpec.ofChange fnIsTokenConcatSpec)

/-- ITS FALSE NEIGHBOUR: 'it returns false'. Refute it at one input. -/
def fnIsTokenConcatWrong : ChangeSpec := { name := "fnIsTokenConcat", fn := fun _ => fun
  | [d1, d2] => { results := [.lit (.bool false)], args := [d1, d2] }
  | _ => none }
def FnIsTokenConcatWrongFalsely : Prop := fnIsTokenConcatRow.holds Try.pinned (OpenSpec.ofChange fnIsTokenConcatWrong)

/-- 'zzlaws_internal_web_b1.FnCanonicalKeyKeepsToken': WHATEVER THE INPUT: true; the input reads as it did. -/
def fnCanonicalKeyKeepsTokenSpec : ChangeSpec := { name := "fnCanonicalKeyKeepsToken", fn := fun _ => fun
  | [d] => { results := [.lit (.bool true)], args := [d] }
  | _ => none }
def fnCanonicalKeyKeepsTokenRow : OpenClaim := { program := "qxb6600093a", sum := "c52911ccf90421a138af2fc817b4abb4e83e61717ae4a162da72b573bd395368", func := "example.com/backstay/backstay/zzlaws_internal_web_b1.FnCanonicalKeyKeepsToken", spec := "fnCanonicalKeyKeepsToken", inPlace := ["internal/bytealg.IndexByteString"], apart := false }
def FnCanonicalKeyKeepsTokenSaid : Prop := fnCanonicalKeyKeepsTokenRow.holds Try.pinned (OpenSpec.ofChange fnCanonicalKeyKeepsTokenSpec)

/-- ITS FALSE NEIGHBOUR: 'it returns false'. Refute it at one input. -/
def fnCanonicalKeyKeepsTokenWrong : ChangeSpec := { name := "fnCanonicalKeyKeepsToken", fn := fun _ => fun
  | [d] => { results := [.lit (.bool false)], args := [d] }
  | _ => none }
def FnCanonicalKeyKeepsTokenWrongFalsely : Prop := fnCanonicalKeyKeepsTokenRow.holds Try.pinned (OpenSpec.ofChange fnCanonicalKeyKeepsTokenWrong)

/-- 'zzlaws_internal_web_b1.FnCanonicalKeyKeepsScheme': WHATEVER THE INPUT: true; the input reads as it did. -/
def fnCanonicalKeyKeepsSchemeSpec : ChangeSpec := { name := "fnCanonicalKeyKeepsScheme", fn := fun _ => fun
  | [d] => { results := [.lit (.bool true)], args := [d] }
  | _ => none }
def fnCanonicalKeyKeepsSchemeRow : OpenClaim := { program := "qxb6600093a", sum := "c52911ccf90421a138af2fc817b4abb4e83e61717ae4a162da72b573bd395368", func := "example.com/backstay/backstay/zzlaws_internal_web_b1.FnCanonicalKeyKeepsScheme", spec := "fnCanonicalKeyKeepsScheme", inPlace := ["internal/bytealg.IndexByteString"], apart := false }
def FnCanonicalKeyKeepsSchemeSaid : Prop := fnCanonicalKeyKeepsSchemeRow.holds Try.pinned (OpenSpec.ofChange fnCanonicalKeyKeepsSchemeSpec)

/-- ITS FALSE NEIGHBOUR: 'it returns false'. Refute it at one input. -/
def fnCanonicalKeyKeepsSchemeWrong : ChangeSpec := { name := "fnCanonicalKeyKeepsScheme", fn := fun _ => fun
  | [d] => { results := [.lit (.bool false)], args := [d] }
  | _ => none }
def FnCanonicalKeyKeepsSchemeWrongFalsely : Prop := fnCanonicalKeyKeepsSchemeRow.holds Try.pinned (OpenSpec.ofChange fnCanonicalKeyKeepsSchemeWrong)

/-- 'zzlaws_internal_web_b1.FnIsSchemeIsToken': WHATEVER THE INPUT: true; the input reads as it did. -/
def fnIsSchemeIsTokenSpec : ChangeSpec := { name := "fnIsSchemeIsToken", fn := fun _ => fun
  | [d] => { results := [.lit (.bool true)], args := [d] }
  | _ => none }
def fnIsSchemeIsTokenRow : OpenClaim := { program := "qxb6600093a", sum := "c52911ccf90421a138af2fc817b4abb4e83e61717ae4a162da72b573bd395368", func := "example.com/backstay/backstay/zzlaws_internal_web_b1.FnIsSchemeIsToken", spec := "fnIsSchemeIsToken", inPlace := ["internal/bytealg.IndexByteString"], apart := false }
def FnIsSchemeIsTokenSaid : Prop := fnIsSchemeIsTokenRow.holds Try.pinned (OpenSpec.ofChange fnIsSchemeIsTokenSpec)

/-- ITS FALSE NEIGHBOUR: 'it returns false'. Refute it at one input. -/
def fnIsSchemeIsTokenWrong : ChangeSpec := { name := "fnIsSchemeIsToken", fn := fun _ => fun
  | [d] => { results := [.lit (.bool false)], args := [d] }
  | _ => none }
def FnIsSchemeIsTokenWrongFalsely : Prop := fnIsSchemeIsTokenRow.holds Try.pinned (OpenSpec.ofChange fnIsSchemeIsTokenWrong)

/-- 'zzlaws_internal_web_b1.FnIsSchemeSplit': WHATEVER THE INPUT: true; the input reads as it did. -/
def fnIsSchemeSplitSpec : ChangeSpec := { name := "fnIsSchemeSplit", fn := fun _ => fun
  | [d1, d2] => { results := [.lit (.bool true)], args := [d1, d2] }
  | _ => none }
def fnIsSchemeSplitRow : OpenClaim := { program := "qxb6600093a", sum := "c52911ccf90421a138af2fc817b4abb4e83e61717ae4a162da72b573bd395368", func := "example.com/backstay/backstay/zzlaws_internal_web_b1.FnIsSchemeSplit", spec := "fnIsSchemeSplit", apart := false }
def FnIsSchemeSplitSaid : Prop := fnIsSchemeSplitRow.holds Try.pinned (OpenSpec.ofChange fnIsSchemeSplitSpec)

/-- ITS FALSE NEIGHBOUR: 'it returns false'. Refute it at one input. -/
def fnIsSchemeSplitWrong : ChangeSpec := { name := "fnIsSchemeSplit", fn := fun _ => fun
  | [d1, d2] => { results := [.lit (.bool false)], args := [d1, d2] }
  | _ => none }
def FnIsSchemeSplitWrongFalsely : Prop := fnIsSchemeSplitRow.holds Try.pinned (OpenSpec.ofChange fnIsSchemeSplitWrong)

end Rows
end Go.Proofs.Qxb6600093a
