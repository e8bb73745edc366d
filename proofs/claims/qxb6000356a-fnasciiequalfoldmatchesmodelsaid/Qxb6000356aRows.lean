/-
  No cell of these rows narrows 'for every input' (looked for: loops, veiled, ifaces, maps, wideKeys, modest, calm, conditions, laid).
  DERIVED. THE GIVEN ROWS OF THIS SEAT. 3 by the template 'for every input the law returns true; each argument reads behind the call as it read before'; 0 by the template 'total and deterministic' (their statements: Qxb6000356aTotals.lean).
  GIVEN WITH THE SEED: the statements are not yours to turn. If you find one false, say at which input.
  Laid BY PROGRAM, IN A SANDBOX (cutbox-rows.mjs): the forced cells as the released guide's own fill.sh prints them over the translation 710c772c6616f3b3… (all of the seat's roots in one cut). By AI agents, Wed Nov 11 2026. No macro, syntax, notation, axiom, sorry.
-/
import Derived.Test.Qxb6000356aChecked
import GoSem.Claim
import GoSem.ClaimJoined
import GoSem.ClaimMapViews
import Derived.JoinedTies
import Derived.KernelRfl
namespace Go.Proofs.Qxb6000356a
/- THE CELL 'sum', in the pinned program and in every row, IS THE sha256 OF THE DUMP (.gsa) THAT Qxb6000356aProg.lean LOADS. Nothing in Lean hashes anything: it is a label: what it is worth is what the hold of that sum in a sandbox is worth. -/
noncomputable def Try.pinned : Pinned := { name := "qxb6000356a", sum := "710c772c6616f3b394e981891f858c968d3686213e835ea81ebf241d156d8a6a", checked := Try.checked }
namespace Rows
def none {H : Type} : Left H := { results := [], args := [] }

/-- 'zzlaws_gateway_b1.FnAsciiEqualFoldMatchesModel': WHATEVER THE INPUT: true; the input reads as it did. -/
def fnAsciiEqualFoldMatchesModelSpec : ChangeSpec := { name := "fnAsciiEqualFoldMatchesModel", fn := fun _ => fun
  | [d1, d2] => { results := [.lit (.bool true)], args := [d1, d2] }
  | _ => none }
def fnAsciiEqualFoldMatchesModelRow : OpenClaim := { program := "qxb6000356a", sum := "710c772c6616f3b394e981891f858c968d3686213e835ea81ebf241d156d8a6a", func := "example.com/quiltgate/quiltgate/zzlaws_gateway_b1.FnAsciiEqualFoldMatchesModel", spec := "fnAsciiEqualFoldMatchesModel", apart := false }
def FnAsciiEqualFoldMatchesModelSaid : Prop := fnAsciiEqualFoldMatchesModelRow.holds Try.pinned (OpenSpec.ofChange fnAsciiEqualFoldMatchesModelSpec)

/-- ITS FALSE NEIGHBOUR: 'it returns false'. Refute it at one input. -/
def fnAsciiEqualFoldMatchesModelWrong : ChangeSpec := { name := "fnAsciiEqualFoldMatchesModel", fn := fun _ => fun
  | [d1, d2] => { results := [.lit (.bool false)], args := [d1, d2] }
  | _ => none }
def FnAsciiEqualFoldMatchesModelWrongFalsely : Prop := fnAsciiEqualFoldMatchesModelRow.holds Try.pinned (OpenSpec.ofChange fnAsciiEqualFoldMatchesModelWrong)

/-- 'zzlaws_gateway_b1.FnAsciiEqualFoldSymmetricReflexive': WHATEVER THE INPUT: true; the input reads as it did. -/
def fnAsciiEqualFoldSymmetricReflexiveSpec : ChangeSpec := { name := "fnAsciiEqualFoldSymmetricReflexive", fn := fun _ => fun
  | [d1, d2] => { results := [.lit (.bool true)], args := [d1, d2] }
  | _ => none }
def fnAsciiEqualFoldSymmetricReflexiveRow : OpenClaim := { program := "qxb6000356a", sum := "710c772c6616f3b394e981891f858c968d3686213e835ea81ebf241d156d8a6a", func := "example.com/quiltgate/quiltgate/zzlaws_gateway_b1.FnAsciiEqualFoldSymmetricReflexive", spec := "fnAsciiEqualFoldSymmetricReflexive", apart := false }
def FnAsciiEqualFoldSymmetricReflexiveSaid : Prop := fnAsciiEqualFoldSymmetricReflexiveRow.holds Try.pinned (OpenSpec.ofChange fnAsciiEqualFoldSymmetricReflexiveSpec)

/-- ITS FALSE NEIGHBOUR: 'it returns false'. Refute it at one input. -/
def fnAsciiEqualFoldSymmetricReflexiveWrong : ChangeSpec := { name := "fnAsciiEqualFoldSymmetricReflexive", fn := fun _ => fun
  | [d1, d2] => { results := [.lit (.bool false)], args := [d1, d2] }
  | _ => none }
def FnAsciiEqualFoldSymmetricReflexiveWrongFalsely : Prop := fnAsciiEqualFoldSymmetricReflexiveRow.holds Try.pinned (OpenSpec.ofChange fnAsciiEqualFoldSymmetricReflexiveWrong)

/-- 'zzlaws_gateway_b1.FnAsciiEqualFoldCaseBlindTransitive': WHATEVER THE INPUT: true; the input reads as it did. -/
def fnAsciiEqualFoldCaseBlindTransitiveSpec : ChangeSpec := { name := "fnAsciiEqualFoldCaseBlindTransitive", fn := fun _ => fun
  | [d1, d2, d3] => { results := [.lit (.bool true)], args := [d1, d2, d3] }
  | _ => none }
def fnAsciiEqualFoldCaseBlindTransitiveRow : OpenClaim := { program := "qxb6000356a", sum := "710c772c6616f3b394e981891f858c968d3686213e835ea81ebf241d156d8a6a", func := "example.com/quiltgate/quiltgate/zzlaws_gateway_b1.FnAsciiEqualFoldCaseBlindTransitive", spec := "fnAsciiEqualFoldCaseBlindTransitive", apart := false }
def FnAsciiEqualFoldCaseBlindTransitiveSaid : Prop := fnAsciiEqualFoldCaseBlindTransitiveRow.holds Try.pinned (OpenSpec.ofChange fnAsciiEqualFoldCaseBlindTransitiveSpec)

/-- ITS FALSE NEIGHBOUR: 'it returns false'. Refute it at one input. -/
def fnAsciiEqualFoldCaseBlindTransitiveWrong : ChangeSpec := { name := "fnAsciiEqualFoldCaseBlindTransitive", fn := fun _ => fun
  | [d1, d2, d3] => { results := [.lit (.bool false)], args := [d1, d2, d3] }
  | _ => none }
def FnAsciiEqualFoldCaseBlindTransitiveWrongFalsely : Prop := fnAsciiEqualFoldCaseBlindTransitiveRow.holds Try.pinned (OpenSpec.ofChange fnAsciiEqualFoldCaseBlindTransitiveWrong)

end Rows
end Go.Proofs.Qxb6000356a
