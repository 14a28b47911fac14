/-
  No cell of these rows narrows 'for every input' (looked for: loops, veiled, ifaces, maps, wideKeys, modest, calm, conditions, laid).
  DERIVED. THE GIVEN ROWS OF THIS SEAT. 5 by the template 'for every input the law returns true; each argument reads behind the call as it read before'; 0 by the template 'total and deterministic' (their statements: Qxb6002684aTotals.lean).
  GIVEN WITH THE SEED: the statements are not yours to turn. If you find one false, say at which input.
  Laid BY PROGRAM, IN A SANDBOX (cutbox-rows.mjs): the forced cells as the released guide's own fill.sh prints them over the translation 25b6e02ea05baf9e… (all of the seat's roots in one cut). By AI agents, Wed Nov 11 2026. No macro, syntax, notation, axiom, sorry.
-/
import Derived.Test.Qxb6002684aChecked
import GoSem.Claim
import GoSem.ClaimJoined
import GoSem.ClaimMapViews
import Derived.JoinedTies
import Derived.KernelRfl
namespace Go.Proofs.Qxb6002684a
/- THE CELL 'sum', in the pinned program and in every row, IS THE sha256 OF THE DUMP (.gsa) THAT Qxb6002684aProg.lean LOADS. Nothing in Lean hashes anything: it is a label: what it is worth is what the hold of that sum in a sandbox is worth. -/
noncomputable def Try.pinned : Pinned := { name := "qxb6002684a", sum := "25b6e02ea05baf9e92ab0bc14a05a1b6b1bc0fc8edc516cb62efa4a98f94b3c2", checked := Try.checked }
namespace Rows
def none {H : Type} : Left H := { results := [], args := [] }

/-- 'zzlaws_internal_http1_b1.FnParseURIRoundTrip': WHATEVER THE INPUT: true; the input reads as it did. -/
def fnParseURIRoundTripSpec : ChangeSpec := { name := "fnParseURIRoundTrip", fn := fun _ => fun
  | [d] => { results := [.lit (.bool true)], args := [d] }
  | _ => none }
def fnParseURIRoundTripRow : OpenClaim := { program := "qxb6002684a", sum := "25b6e02ea05baf9e92ab0bc14a05a1b6b1bc0fc8edc516cb62efa4a98f94b3c2", func := "example.com/portcullis/portcullis/zzlaws_internal_http1_b1.FnParseURIRoundTrip", spec := "fnParseURIRoundTrip", inPlace := ["internal/bytealg.IndexByteString", "internal/bytealg.IndexString"], named := ["internal/bytealg.MaxLen"], apart := false }
def FnParseURIRoundTripSaid : Prop := fnParseURIRoundTripRow.holds Try.pinned (OpenSpec.ofChange fnParseURIRoundTripSpec)

/-- ITS FALSE NEIGHBOUR: 'it returns false'. Refute it at one input. -/
def fnParseURIRoundTripWrong : ChangeSpec := { name := "fnParseURIRoundTrip", fn := fun _ => fun
  | [d] => { results := [.lit (.bool false)], args := [d] }
  | _ => none }
def FnParseURIRoundTripWrongFalsely : Prop := fnParseURIRoundTripRow.holds Try.pinned (OpenSpec.ofChange fnParseURIRoundTripWrong)

/-- 'zzlaws_internal_http1_b1.FnParseURIRenderIdempotent': WHATEVER THE INPUT: true; the input reads as it did. -/
def fnParseURIRenderIdempotentSpec : ChangeSpec := { name := "fnParseURIRenderIdempotent", fn := fun _ => fun
  | [d] => { results := [.lit (.bool true)], args := [d] }
  | _ => none }
def fnParseURIRenderIdempotentRow : OpenClaim := { program := "qxb6002684a", sum := "25b6e02ea05baf9e92ab0bc14a05a1b6b1bc0fc8edc516cb62efa4a98f94b3c2", func := "example.com/portcullis/portcullis/zzlaws_internal_http1_b1.FnParseURIRenderIdempotent", spec := "fnParseURIRenderIdempotent", inPlace := ["internal/bytealg.IndexByteString", "internal/bytealg.IndexString"], named := ["internal/bytealg.MaxLen"], apart := false }
def FnParseURIRenderIdempotentSaid : Prop := fnParseURIRenderIdempotentRow.holds Try.pinned (OpenSpec.ofChange fnParseURIRenderIdempotentSpec)

/-- ITS FALSE NEIGHBOUR: 'it returns false'. Refute it at one input. -/
def fnParseURIRenderIdempotentWrong : ChangeSpec := { name := "fnParseURIRenderIdempotent", fn := fun _ => fun
  | [d] => { results := [.lit (.bool false)], args := [d] }
  | _ => none }
def FnParseURIRenderIdempotentWrongFalsely : Prop := fnParseURIRenderIdempotentRow.holds Try.pinned (OpenSpec.ofChange fnParseURIRenderIdempotentWrong)

/-- 'zzlaws_internal_http1_b1.FnHeadEndModel': WHATEVER THE INPUT: true; the input reads as it did. -/
def fnHeadEndModelSpec : ChangeSpec := { name := "fnHeadEndModel", fn := fun _ => fun
  | [d] => { results := [.lit (.bool true)], args := [d] }
  | _ => none }
def fnHeadEndModelRow : OpenClaim := { program := "qxb6002684a", sum := "25b6e02ea05baf9e92ab0bc14a05a1b6b1bc0fc8edc516cb62efa4a98f94b3c2", func := "example.com/portcullis/portcullis/zzlaws_internal_http1_b1.FnHeadEndModel", spec := "fnHeadEndModel", inPlace := ["internal/bytealg.IndexByte"], apart := false }
def FnHeadEndModelSaid : Prop := fnHeadEndModelRow.holds Try.pinned (OpenSpec.ofChange fnHeadEndModelSpec)

/-- ITS FALSE NEIGHBOUR: 'it returns false'. Refute it at one input. -/
def fnHeadEndModelWrong : ChangeSpec := { name := "fnHeadEndModel", fn := fun _ => fun
  | [d] => { results := [.lit (.bool false)], args := [d] }
  | _ => none }
def FnHeadEndModelWrongFalsely : Prop := fnHeadEndModelRow.holds Try.pinned (OpenSpec.ofChange fnHeadEndModelWrong)

/-- 'zzlaws_internal_http1_b1.FnHeadEndExtend': WHATEVER THE INPUT: true; the input reads as it did. -/
def fnHeadEndExtendSpec : ChangeSpec := { name := "fnHeadEndExtend", fn := fun _ => fun
  | [d1, d2] => { results := [.lit (.bool true)], args := [d1, d2] }
  | _ => none }
def fnHeadEndExtendRow : OpenClaim := { program := "qxb6002684a", sum := "25b6e02ea05baf9e92ab0bc14a05a1b6b1bc0fc8edc516cb62efa4a98f94b3c2", func := "example.com/portcullis/portcullis/zzlaws_internal_http1_b1.FnHeadEndExtend", spec := "fnHeadEndExtend", inPlace := ["internal/bytealg.IndexByte"], apart := false }
def FnHeadEndExtendSaid : Prop := fnHeadEndExtendRow.holds Try.pinned (OpenSpec.ofChange fnHeadEndExtendSpec)

/-- ITS FALSE NEIGHBOUR: 'it returns false'. Refute it at one input. -/
def fnHeadEndExtendWrong : ChangeSpec := { name := "fnHeadEndExtend", fn := fun _ => fun
  | [d1, d2] => { results := [.lit (.bool false)], args := [d1, d2] }
  | _ => none }
def FnHeadEndExtendWrongFalsely : Prop := fnHeadEndExtendRow.holds Try.pinned (OpenSpec.ofChange fnHeadEndExtendWrong)

/-- 'zzlaws_internal_http1_b1.FnHeadEndFindsWrittenHead': WHATEVER THE INPUT: true; the input reads as it did. -/
def fnHeadEndFindsWrittenHeadSpec : ChangeSpec := { name := "fnHeadEndFindsWrittenHead", fn := fun _ => fun
  | [d1, d2, d3] => { results := [.lit (.bool true)], args := [d1, d2, d3] }
  | _ => none }
def fnHeadEndFindsWrittenHeadRow : OpenClaim := { program := "qxb6002684a", sum := "25b6e02ea05baf9e92ab0bc14a05a1b6b1bc0fc8edc516cb62efa4a98f94b3c2", func := "example.com/portcullis/portcullis/zzlaws_internal_http1_b1.FnHeadEndFindsWrittenHead", spec := "fnHeadEndFindsWrittenHead", inPlace := ["internal/bytealg.IndexByte"], apart := false }
def FnHeadEndFindsWrittenHeadSaid : Prop := fnHeadEndFindsWrittenHeadRow.holds Try.pinned (OpenSpec.ofChange fnHeadEndFindsWrittenHeadSpec)

/-- ITS FALSE NEIGHBOUR: 'it returns false'. Refute it at one input. -/
def fnHeadEndFindsWrittenHeadWrong : ChangeSpec := { name := "fnHeadEndFindsWrittenHead", fn := fun _ => fun
  | [d1, d2, d3] => { results := [.lit (.bool false)], args := [d1, d2, d3] }
  | _ => none }
def FnHeadEndFindsWrittenHeadWrongFalsely : Prop := fnHeadEndFindsWrittenHeadRow.holds Try.pinned (OpenSpec.ofChange fnHeadEndFindsWrittenHeadWrong)

end Rows
end Go.Proofs.Qxb6002684a
