/-
  No cell of these rows narrows 'for every input' (looked for: loops, veiled, ifaces, maps, wideKeys, modest, calm, conditions, laid).
  DERIVED. THE GIVEN ROWS OF THIS SEAT. 3 by the template 'for every input the law returns true; each argument reads behind the call as it read before'; 0 by the template 'total and deterministic' (their statements: Qxb6600407aTotals.lean).
  GIVEN WITH THE SEED: the statements are not yours to turn. If you find one false, say at which input.
  Laid BY PROGRAM, IN A SANDBOX (cutbox-rows.mjs): the forced cells as the released guide's own fill.sh prints them over the translation 1d1d3b12f2f5095f… (all of the seat's roots in one cut). By AI agents, Wed Nov 11 2026. No macro, syntax, notation, axiom, sorry.
-/
import Derived.Test.Qxb6600407aChecked
import GoSem.Claim
import GoSem.ClaimJoined
import GoSem.ClaimMapViews
import Derived.JoinedTies
import Derived.KernelRfl
namespace Go.Proofs.Qxb6600407a
/- THE CELL 'sum', in the pinned program and in every row, IS THE sha256 OF THE DUMP (.gsa) THAT Qxb6600407aProg.lean LOADS. Nothing in Lean hashes anything: it is a label: what it is worth is what the hold of that sum in a sandbox is worth. -/
noncomputable def Try.pinned : Pinned := { name := "qxb6600407a", sum := "1d1d3b12f2f5095f0a2bca4f4bf4a145f921494ce359ffc8718b5eb798b137d9", checked := Try.checked }
namespace Rows
def none {H : Type} : Left H := { results := [], args := [] }

/-- 'zzlaws_policy_b1.FnNewSetMakerSingletons': WHATEVER THE INPUT: true; the input reads as it did. -/
def fnNewSetMakerSingletonsSpec : ChangeSpec := { name := "fnNewSetMakerSingletons", fn := fun _ => fun
  | [d] => { results := [.lit (.bool true)], args := [d] }
  | _ => none }
def fnNewSetMakerSingletonsRow : OpenClaim := { program := "qxb6600407a", sum := "1d1d3b12f2f5095f0a2bca4f4bf4a145f921494ce359ffc8718b5eb798b137d9", func := "example.com/boma/boma/zzlaws_policy_b1.FnNewSetMakerSingletons", spec := "fnNewSetMakerSingletons", apart := false }
def FnNewSetMakerSingletonsSaid : Prop := fnNewSetMakerSingletonsRow.holds Try.pinned (OpenSpec.ofChange fnNewSetMakerSingletonsSpec)

/-- ITS FALSE NEIGHBOUR: 'it returns false'. Refute it at one input. -/
def fnNewSetMakerSingletonsWrong : ChangeSpec := { name := "fnNewSetMakerSingletons", fn := fun _ => fun
  | [d] => { results := [.lit (.bool false)], args := [d] }
  | _ => none }
def FnNewSetMakerSingletonsWrongFalsely : Prop := fnNewSetMakerSingletonsRow.holds Try.pinned (OpenSpec.ofChange fnNewSetMakerSingletonsWrong)

/-- 'zzlaws_policy_b1.FnNewSetMakerMarkOneMore': WHATEVER THE INPUT: true; the input reads as it did. -/
def fnNewSetMakerMarkOneMoreSpec : ChangeSpec := { name := "fnNewSetMakerMarkOneMore", fn := fun _ => fun
  | [d1, d2] => { results := [.lit (.bool true)], args := [d1, d2] }
  | _ => none }
def fnNewSetMakerMarkOneMoreRow : OpenClaim := { program := "qxb6600407a", sum := "1d1d3b12f2f5095f0a2bca4f4bf4a145f921494ce359ffc8718b5eb798b137d9", func := "example.com/boma/boma/zzlaws_policy_b1.FnNewSetMakerMarkOneMore", spec := "fnNewSetMakerMarkOneMore", apart := false }
def FnNewSetMakerMarkOneMoreSaid : Prop := fnNewSetMakerMarkOneMoreRow.holds Try.pinned (OpenSpec.ofChange fnNewSetMakerMarkOneMoreSpec)

/-- ITS FALSE NEIGHBOUR: 'it returns false'. Refute it at one input. -/
def fnNewSetMakerMarkOneMoreWrong : ChangeSpec := { name := "fnNewSetMakerMarkOneMore", fn := fun _ => fun
  | [d1, d2] => { results := [.lit (.bool false)], args := [d1, d2] }
  | _ => none }
def FnNewSetMakerMarkOneMoreWrongFalsely : Prop := fnNewSetMakerMarkOneMoreRow.holds Try.pinned (OpenSpec.ofChange fnNewSetMakerMarkOneMoreWrong)

/-- 'zzlaws_policy_b1.FnElementsClassesFresh': WHATEVER THE INPUT: true; the input reads as it did. -/
def fnElementsClassesFreshSpec : ChangeSpec := { name := "fnElementsClassesFresh", fn := fun _ => fun
  | [d1, d2] => { results := [.lit (.bool true)], args := [d1, d2] }
  | _ => none }
def fnElementsClassesFreshRow : OpenClaim := { program := "qxb6600407a", sum := "1d1d3b12f2f5095f0a2bca4f4bf4a145f921494ce359ffc8718b5eb798b137d9", func := "example.com/boma/boma/zzlaws_policy_b1.FnElementsClassesFresh", spec := "fnElementsClassesFresh", apart := false }
def FnElementsClassesFreshSaid : Prop := fnElementsClassesFreshRow.holds Try.pinned (OpenSpec.ofChange fnElementsClassesFreshSpec)

/-- ITS FALSE NEIGHBOUR: 'it returns false'. Refute it at one input. -/
def fnElementsClassesFreshWrong : ChangeSpec := { name := "fnElementsClassesFresh", fn := fun _ => fun
  | [d1, d2] => { results := [.lit (.bool false)], args := [d1, d2] }
  | _ => none }
def FnElementsClassesFreshWrongFalsely : Prop := fnElementsClassesFreshRow.holds Try.pinned (OpenSpec.ofChange fnElementsClassesFreshWrong)

end Rows
end Go.Proofs.Qxb6600407a
