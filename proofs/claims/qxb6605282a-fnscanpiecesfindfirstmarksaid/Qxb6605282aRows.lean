/-
  No cell of these rows narrows 'for every input' (looked for: loops, veiled, ifaces, maps, wideKeys, modest, calm, conditions, laid).
  DERIVED. THE GIVEN ROWS OF THIS SEAT. 5 by the template 'for every input the law returns true; each argument reads behind the call as it read before'; 0 by the template 'total and deterministic' (their statements: Qxb6605282aTotals.lean).
  GIVEN WITH THE SEED: the statements are not yours to turn. If you find one false, say at which input.
  Laid BY PROGRAM, IN A SANDBOX (cutbox-rows.mjs): the forced cells as the released guide's own fill.sh prints them over the translation 31b1ac2073c9cd68… (all of the seat's roots in one cut). By AI agents, Wed Nov 11 2026. No macro, syntax, notation, axiom, sorry.
-/
import Derived.Test.Qxb6605282aChecked
import GoSem.Claim
import GoSem.ClaimJoined
import GoSem.ClaimMapViews
import Derived.JoinedTies
import Derived.KernelRfl
namespace Go.Proofs.Qxb6605282a
/- THE CELL 'sum', in the pinned program and in every row, IS THE sha256 OF THE DUMP (.gsa) THAT Qxb6605282aProg.lean LOADS. Nothing in Lean hashes anything: it is a label: what it is worth is what the hold of that sum in a sandbox is worth. -/
noncomputable def Try.pinned : Pinned := { name := "qxb6605282a", sum := "31b1ac2073c9cd68b7eccda7506019bc3a405376c803f83e6f5f9ee0a874f97a", checked := Try.checked }
namespace Rows
def none {H : Type} : Left H := { results := [], args := [] }

/-- 'zzlaws_pkg_input_b1.FnScanMatchesJoinedSearch': WHATEVER THE INPUT: true; the input reads as it did. -/
def fnScanMatchesJoinedSearchSpec : ChangeSpec := { name := "fnScanMatchesJoinedSearch", fn := fun _ => fun
  | [d1, d2, d3, d4, d5, d6] => { results := [.lit (.bool true)], args := [d1, d2, d3, d4, d5, d6] }
  | _ => none }
def fnScanMatchesJoinedSearchRow : OpenClaim := { program := "qxb6605282a", sum := "31b1ac2073c9cd68b7eccda7506019bc3a405376c803f83e6f5f9ee0a874f97a", func := "example.com/zhaomu/zhaomu/zzlaws_pkg_input_b1.FnScanMatchesJoinedSearch", spec := "fnScanMatchesJoinedSearch", inPlace := ["internal/bytealg.IndexByte", "internal/bytealg.Index"], named := ["internal/bytealg.MaxLen"], apart := false }
def FnScanMatchesJoinedSearchSaid : Prop := fnScanMatchesJoinedSearchRow.holds Try.pinned (OpenSpec.ofChange fnScanMatchesJoinedSearchSpec)

/-- ITS FALSE NEIGHBOUR: 'it returns false'. Refute it at one input. -/
def fnScanMatchesJoinedSearchWrong : ChangeSpec := { name := "fnScanMatchesJoinedSearch", fn := fun _ => fun
  | [d1, d2, d3, d4, d5, d6] => { results := [.lit (.bool false)], args := [d1, d2, d3, d4, d5, d6] }
  | _ => none }
def FnScanMatchesJoinedSearchWrongFalsely : Prop := fnScanMatchesJoinedSearchRow.holds Try.pinned (OpenSpec.ofChange fnScanMatchesJoinedSearchWrong)

/-- 'zzlaws_pkg_input_b1.FnScanPiecesFindFirstMark': WHATEVER THE INPUT: true; the input reads as it did. -/
def fnScanPiecesFindFirstMarkSpec : ChangeSpec := { name := "fnScanPiecesFindFirstMark", fn := fun _ => fun
  | [d] => { results := [.lit (.bool true)], args := [d] }
  | _ => none }
def fnScanPiecesFindFirstMarkRow : OpenClaim := { program := "qxb6605282a", sum := "31b1ac2073c9cd68b7eccda7506019bc3a405376c803f83e6f5f9ee0a874f97a", func := "example.com/zhaomu/zhaomu/zzlaws_pkg_input_b1.FnScanPiecesFindFirstMark", spec := "fnScanPiecesFindFirstMark", inPlace := ["internal/bytealg.IndexByte", "internal/bytealg.Index"], named := ["internal/bytealg.MaxLen"], apart := false }
def FnScanPiecesFindFirstMarkSaid : Prop := fnScanPiecesFindFirstMarkRow.holds Try.pinned (OpenSpec.ofChange fnScanPiecesFindFirstMarkSpec)

/-- ITS FALSE NEIGHBOUR: 'it returns false'. Refute it at one input. -/
def fnScanPiecesFindFirstMarkWrong : ChangeSpec := { name := "fnScanPiecesFindFirstMark", fn := fun _ => fun
  | [d] => { results := [.lit (.bool false)], args := [d] }
  | _ => none }
def FnScanPiecesFindFirstMarkWrongFalsely : Prop := fnScanPiecesFindFirstMarkRow.holds Try.pinned (OpenSpec.ofChange fnScanPiecesFindFirstMarkWrong)

/-- 'zzlaws_pkg_input_b1.FnDateShapedIsDigitBlindEquality': WHATEVER THE INPUT: true; the input reads as it did. -/
def fnDateShapedIsDigitBlindEqualitySpec : ChangeSpec := { name := "fnDateShapedIsDigitBlindEquality", fn := fun _ => fun
  | [d1, d2] => { results := [.lit (.bool true)], args := [d1, d2] }
  | _ => none }
def fnDateShapedIsDigitBlindEqualityRow : OpenClaim := { program := "qxb6605282a", sum := "31b1ac2073c9cd68b7eccda7506019bc3a405376c803f83e6f5f9ee0a874f97a", func := "example.com/zhaomu/zhaomu/zzlaws_pkg_input_b1.FnDateShapedIsDigitBlindEquality", spec := "fnDateShapedIsDigitBlindEquality", apart := false }
def FnDateShapedIsDigitBlindEqualitySaid : Prop := fnDateShapedIsDigitBlindEqualityRow.holds Try.pinned (OpenSpec.ofChange fnDateShapedIsDigitBlindEqualitySpec)

/-- ITS FALSE NEIGHBOUR: 'it returns false'. Refute it at one input. -/
def fnDateShapedIsDigitBlindEqualityWrong : ChangeSpec := { name := "fnDateShapedIsDigitBlindEquality", fn := fun _ => fun
  | [d1, d2] => { results := [.lit (.bool false)], args := [d1, d2] }
  | _ => none }
def FnDateShapedIsDigitBlindEqualityWrongFalsely : Prop := fnDateShapedIsDigitBlindEqualityRow.holds Try.pinned (OpenSpec.ofChange fnDateShapedIsDigitBlindEqualityWrong)

/-- 'zzlaws_pkg_input_b1.FnDateShapedEquivalence': WHATEVER THE INPUT: true; the input reads as it did. -/
def fnDateShapedEquivalenceSpec : ChangeSpec := { name := "fnDateShapedEquivalence", fn := fun _ => fun
  | [d1, d2, d3] => { results := [.lit (.bool true)], args := [d1, d2, d3] }
  | _ => none }
def fnDateShapedEquivalenceRow : OpenClaim := { program := "qxb6605282a", sum := "31b1ac2073c9cd68b7eccda7506019bc3a405376c803f83e6f5f9ee0a874f97a", func := "example.com/zhaomu/zhaomu/zzlaws_pkg_input_b1.FnDateShapedEquivalence", spec := "fnDateShapedEquivalence", apart := false }
def FnDateShapedEquivalenceSaid : Prop := fnDateShapedEquivalenceRow.holds Try.pinned (OpenSpec.ofChange fnDateShapedEquivalenceSpec)

/-- ITS FALSE NEIGHBOUR: 'it returns false'. Refute it at one input. -/
def fnDateShapedEquivalenceWrong : ChangeSpec := { name := "fnDateShapedEquivalence", fn := fun _ => fun
  | [d1, d2, d3] => { results := [.lit (.bool false)], args := [d1, d2, d3] }
  | _ => none }
def FnDateShapedEquivalenceWrongFalsely : Prop := fnDateShapedEquivalenceRow.holds Try.pinned (OpenSpec.ofChange fnDateShapedEquivalenceWrong)

/-- 'zzlaws_pkg_input_b1.FnEqualFieldsIsEncodingEquality': WHATEVER THE INPUT: true; the input reads as it did. -/
def fnEqualFieldsIsEncodingEqualitySpec : ChangeSpec := { name := "fnEqualFieldsIsEncodingEquality", fn := fun _ => fun
  | [d1, d2] => { results := [.lit (.bool true)], args := [d1, d2] }
  | _ => none }
def fnEqualFieldsIsEncodingEqualityRow : OpenClaim := { program := "qxb6605282a", sum := "31b1ac2073c9cd68b7eccda7506019bc3a405376c803f83e6f5f9ee0a874f97a", func := "example.com/zhaomu/zhaomu/zzlaws_pkg_input_b1.FnEqualFieldsIsEncodingEquality", spec := "fnEqualFieldsIsEncodingEquality", apart := false }
def FnEqualFieldsIsEncodingEqualitySaid : Prop := fnEqualFieldsIsEncodingEqualityRow.holds Try.pinned (OpenSpec.ofChange fnEqualFieldsIsEncodingEqualitySpec)

/-- ITS FALSE NEIGHBOUR: 'it returns false'. Refute it at one input. -/
def fnEqualFieldsIsEncodingEqualityWrong : ChangeSpec := { name := "fnEqualFieldsIsEncodingEquality", fn := fun _ => fun
  | [d1, d2] => { results := [.lit (.bool false)], args := [d1, d2] }
  | _ => none }
def FnEqualFieldsIsEncodingEqualityWrongFalsely : Prop := fnEqualFieldsIsEncodingEqualityRow.holds Try.pinned (OpenSpec.ofChange fnEqualFieldsIsEncodingEqualityWrong)

end Rows
end Go.Proofs.Qxb6605282a
