/-
  No cell of these rows narrows 'for every input' (looked for: loops, veiled, ifaces, maps, wideKeys, modest, calm, conditions, laid).
  DERIVED. THE GIVEN ROWS OF THIS SEAT. 1 by the template 'for every input the law returns true; each argument reads behind the call as it read before'; 0 by the template 'total and deterministic' (their statements: Qxb6605473aTotals.lean).
  GIVEN WITH THE SEED: the statements are not yours to turn. If you find one false, say at which input.
  Laid BY PROGRAM, IN A SANDBOX (cutbox-rows.mjs): the forced cells as the released guide's own fill.sh prints them over the translation 448ee5d28b66b242… (all of the seat's roots in one cut). By AI agents, Wed Nov 11 2026. No macro, syntax, notation, axiom, sorry.
-/
import Derived.Test.Qxb6605473aChecked
import GoSem.Claim
import GoSem.ClaimJoined
import GoSem.ClaimMapViews
import Derived.JoinedTies
import Derived.KernelRfl
namespace Go.Proofs.Qxb6605473a
/- THE CELL 'sum', in the pinned program and in every row, IS THE sha256 OF THE DUMP (.gsa) THAT Qxb6605473aProg.lean LOADS. Nothing in Lean hashes anything: it is a label: what it is worth is what the hold of that sum in a sandbox is worth. -/
noncomputable def Try.pinned : Pinned := { name := "qxb6605473a", sum := "448ee5d28b66b24229fdb5e416cb4af7b0220f3f36da275168c2e7ae5ca77626", checked := Try.checked }
namespace Rows
def none {H : Type} : Left H := { results := [], args := [] }

/-- 'zzlaws_pkg_xmlrpc_b1.FnIsEncNameMatchesGrammar': WHATEVER THE INPUT: true; the input reads as it did. -/
def fnIsEncNameMatchesGrammarSpec : ChangeSpec := { name := "fnIsEncNameMatchesGrammar", fn := fun _ => fun
  | [d] => { results := [.lit (.bool true)], args := [d] }
  | _ => none }
def fnIsEncNameMatchesGrammarRow : OpenClaim := { program := "qxb6605473a", sum := "448ee5d28b66b24229fdb5e416cb4af7b0220f3f36da275168c2e7ae5ca77626", func := "example.com/hearthmesh/hearthmesh/zzlaws_pkg_xmlrpc_b1.FnIsEncNameMatchesGrammar", spec := "fnIsEncNameMatchesGrammar", inPlace := ["internal/bytealg.IndexByteString", "internal/bytealg.IndexString"], named := ["internal/bytealg.MaxLen"], apart := false }
def FnIsEncNameMatchesGrammarSaid : Prop := fnIsEncNameMatchesGrammarRow.holds Try.pinned (OpenSpec.ofChange fnIsEncNameMatchesGrammarSpec)

/-- ITS FALSE NEIGHBOUR: 'it returns false'. Refute it at one input. -/
def fnIsEncNameMatchesGrammarWrong : ChangeSpec := { name := "fnIsEncNameMatchesGrammar", fn := fun _ => fun
  | [d] => { results := [.lit (.bool false)], args := [d] }
  | _ => none }
def FnIsEncNameMatchesGrammarWrongFalsely : Prop := fnIsEncNameMatchesGrammarRow.holds Try.pinned (OpenSpec.ofChange fnIsEncNameMatchesGrammarWrong)

end Rows
end Go.Proofs.Qxb6605473a
