/-
  No cell of these rows narrows 'for every input' (looked for: loops, veiled, ifaces, maps, wideKeys, modest, calm, conditions, laid).
  DERIVED. THE GIVEN ROWS OF THIS SEAT. 4 by the template 'for every input the law returns true; each argument reads behind the call as it read before'; 0 by the template 'total and deterministic' (their statements: Qxb6605328aTotals.lean).
  GIVEN WITH THE SEED: the statements are not yours to turn. If you find one false, say at which input.
  Laid BY PROGRAM, IN A SANDBOX (cutbox-rows.mjs): the forced cells as the released guide's own fill.sh prints them over the translation 24638c58a25e2b6a… (all of the seat's roots in one cut). By AI agents, Wed Nov 11 2026. No macro, syntax, notation, axiom, sorry.
-/
import Derived.Test.Qxb6605328aChecked
import GoSem.Claim
import GoSem.ClaimJoined
import GoSem.ClaimMapViews
import Derived.JoinedTies
import Derived.KernelRfl
namespace Go.Proofs.Qxb6605328a
/- THE CELL 'sum', in the pinned program and in every row, IS THE sha256 OF THE DUMP (.gsa) THAT Qxb6605328aProg.lean LOADS. Nothing in Lean hashes anything: it is a label: what it is worth is what the hold of that sum in a sandbox is worth. -/
noncomputable def Try.pinned : Pinned := { name := "qxb6605328a", sum := "24638c58a25e2b6ac9e1579b91393ac8317aff5e787e16c6988740e3fbd9c10b", checked := Try.checked }
namespace Rows
def none {H : Type} : Left H := { results := [], args := [] }

/-- 'zzlaws_internal_config_b1.FnIsPathAcceptsPercentEncoding': WHATEVER THE INPUT: true; the input reads as it did. -/
def fnIsPathAcceptsPercentEncodingSpec : ChangeSpec := { name := "fnIsPathAcceptsPercentEncoding", fn := fun _ => fun
  | [d] => { results := [.lit (.bool true)], args := [d] }
  | _ => none }
def fnIsPathAcceptsPercentEncodingRow : OpenClaim := { program := "qxb6605328a", sum := "24638c58a25e2b6ac9e1579b91393ac8317aff5e787e16c6988740e3fbd9c10b", func := "example.com/kiel/kiel/zzlaws_internal_config_b1.FnIsPathAcceptsPercentEncoding", spec := "fnIsPathAcceptsPercentEncoding", inPlace := ["internal/bytealg.IndexByteString"], apart := false }
def FnIsPathAcceptsPercentEncodingSaid : Prop := fnIsPathAcceptsPercentEncodingRow.holds Try.pinned (OpenSpec.ofChange fnIsPathAcceptsPercentEncodingSpec)

/-- ITS FALSE NEIGHBOUR: 'it returns false'. Refute it at one input. -/
def fnIsPathAcceptsPercentEncodingWrong : ChangeSpec := { name := "fnIsPathAcceptsPercentEncoding", fn := fun _ => fun
  | [d] => { results := [.lit (.bool false)], args := [d] }
  | _ => none }
def FnIsPathAcceptsPercentEncodingWrongFalsely : Prop := fnIsPathAcceptsPercentEncodingRow.holds Try.pinned (OpenSpec.ofChange fnIsPathAcceptsPercentEncodingWrong)

/-- 'zzlaws_internal_config_b1.FnCleanSegmentsMatchesSegmentStack': WHATEVER THE INPUT: true; the input reads as it did. -/
def fnCleanSegmentsMatchesSegmentStackSpec : ChangeSpec := { name := "fnCleanSegmentsMatchesSegmentStack", fn := fun _ => fun
  | [d] => { results := [.lit (.bool true)], args := [d] }
  | _ => none }
def fnCleanSegmentsMatchesSegmentStackRow : OpenClaim := { program := "qxb6605328a", sum := "24638c58a25e2b6ac9e1579b91393ac8317aff5e787e16c6988740e3fbd9c10b", func := "example.com/kiel/kiel/zzlaws_internal_config_b1.FnCleanSegmentsMatchesSegmentStack", spec := "fnCleanSegmentsMatchesSegmentStack", inPlace := ["internal/bytealg.IndexByteString", "internal/bytealg.IndexString"], named := ["internal/bytealg.MaxLen"], apart := false }
def FnCleanSegmentsMatchesSegmentStackSaid : Prop := fnCleanSegmentsMatchesSegmentStackRow.holds Try.pinned (OpenSpec.ofChange fnCleanSegmentsMatchesSegmentStackSpec)

/-- ITS FALSE NEIGHBOUR: 'it returns false'. Refute it at one input. -/
def fnCleanSegmentsMatchesSegmentStackWrong : ChangeSpec := { name := "fnCleanSegmentsMatchesSegmentStack", fn := fun _ => fun
  | [d] => { results := [.lit (.bool false)], args := [d] }
  | _ => none }
def FnCleanSegmentsMatchesSegmentStackWrongFalsely : Prop := fnCleanSegmentsMatchesSegmentStackRow.holds Try.pinned (OpenSpec.ofChange fnCleanSegmentsMatchesSegmentStackWrong)

/-- 'zzlaws_internal_config_b1.FnCleanSegmentsIsIdempotentAndClean': WHATEVER THE INPUT: true; the input reads as it did. -/
def fnCleanSegmentsIsIdempotentAndCleanSpec : ChangeSpec := { name := "fnCleanSegmentsIsIdempotentAndClean", fn := fun _ => fun
  | [d] => { results := [.lit (.bool true)], args := [d] }
  | _ => none }
def fnCleanSegmentsIsIdempotentAndCleanRow : OpenClaim := { program := "qxb6605328a", sum := "24638c58a25e2b6ac9e1579b91393ac8317aff5e787e16c6988740e3fbd9c10b", func := "example.com/kiel/kiel/zzlaws_internal_config_b1.FnCleanSegmentsIsIdempotentAndClean", spec := "fnCleanSegmentsIsIdempotentAndClean", inPlace := ["internal/bytealg.IndexByteString", "internal/bytealg.IndexString"], named := ["internal/bytealg.MaxLen"], apart := false }
def FnCleanSegmentsIsIdempotentAndCleanSaid : Prop := fnCleanSegmentsIsIdempotentAndCleanRow.holds Try.pinned (OpenSpec.ofChange fnCleanSegmentsIsIdempotentAndCleanSpec)

/-- ITS FALSE NEIGHBOUR: 'it returns false'. Refute it at one input. -/
def fnCleanSegmentsIsIdempotentAndCleanWrong : ChangeSpec := { name := "fnCleanSegmentsIsIdempotentAndClean", fn := fun _ => fun
  | [d] => { results := [.lit (.bool false)], args := [d] }
  | _ => none }
def FnCleanSegmentsIsIdempotentAndCleanWrongFalsely : Prop := fnCleanSegmentsIsIdempotentAndCleanRow.holds Try.pinned (OpenSpec.ofChange fnCleanSegmentsIsIdempotentAndCleanWrong)

/-- 'zzlaws_internal_config_b1.FnWithoutPathParametersAgreesWithCleanSegments': WHATEVER THE INPUT: true; the input reads as it did. -/
def fnWithoutPathParametersAgreesWithCleanSegmentsSpec : ChangeSpec := { name := "fnWithoutPathParametersAgreesWithCleanSegments", fn := fun _ => fun
  | [d] => { results := [.lit (.bool true)], args := [d] }
  | _ => none }
def fnWithoutPathParametersAgreesWithCleanSegmentsRow : OpenClaim := { program := "qxb6605328a", sum := "24638c58a25e2b6ac9e1579b91393ac8317aff5e787e16c6988740e3fbd9c10b", func := "example.com/kiel/kiel/zzlaws_internal_config_b1.FnWithoutPathParametersAgreesWithCleanSegments", spec := "fnWithoutPathParametersAgreesWithCleanSegments", inPlace := ["internal/bytealg.IndexByteString", "internal/bytealg.IndexString"], named := ["internal/bytealg.MaxLen"], apart := false }
def FnWithoutPathParametersAgreesWithCleanSegmentsSaid : Prop := fnWithoutPathParametersAgreesWithCleanSegmentsRow.holds Try.pinned (OpenSpec.ofChange fnWithoutPathParametersAgreesWithCleanSegmentsSpec)

/-- ITS FALSE NEIGHBOUR: 'it returns false'. Refute it at one input. -/
def fnWithoutPathParametersAgreesWithCleanSegmentsWrong : ChangeSpec := { name := "fnWithoutPathParametersAgreesWithCleanSegments", fn := fun _ => fun
  | [d] => { results := [.lit (.bool false)], args := [d] }
  | _ => none }
def FnWithoutPathParametersAgreesWithCleanSegmentsWrongFalsely : Prop := fnWithoutPathParametersAgreesWithCleanSegmentsRow.holds Try.pinned (OpenSpec.ofChange fnWithoutPathParametersAgreesWithCleanSegmentsWrong)

end Rows
end Go.Proofs.Qxb6605328a
