/-
  No cell of these rows narrows 'for every input' (looked for: loops, veiled, ifaces, maps, wideKeys, modest, calm, conditions, laid).
  DERIVED. THE GIVEN ROWS OF THIS SEAT. 3 by the template 'for every input the law returns true; each argument reads behind the call as it read before'; 0 by the template 'total and deterministic' (their statements: Qxb6619443aTotals.lean).
  GIVEN WITH THE SEED: the statements are not yours to turn. If you find one false, say at which input.
  Laid BY PROGRAM, IN A SANDBOX (cutbox-rows.mjs): the forced cells as the released guide's own fill.sh prints them over the translation 97eab8f498f0bade… (all of the seat's roots in one cut). By AI agents, Wed Nov 11 2026. No macro, syntax, notation, axiom, sorry.
-/
import Derived.Test.Qxb6619443aChecked
import GoSem.Claim
import GoSem.ClaimJoined
import GoSem.ClaimMapViews
import Derived.JoinedTies
import Derived.KernelRfl
namespace Go.Proofs.Qxb6619443a
/- THE CELL 'sum', in the pinned program and in every row, IS THE sha256 OF THE DUMP (.gsa) THAT Qxb6619443aProg.lean LOADS. Nothing in Lean hashes anything: it is a label: what it is worth is what the hold of that sum in a sandbox is worth. -/
noncomputable def Try.pinned : Pinned := { name := "qxb6619443a", sum := "97eab8f498f0badea15b4b02ba48332d24d2d1021e667aae4d2254667e433679", checked := Try.checked }
namespace Rows
def none {H : Type} : Left H := { results := [], args := [] }

/-- 'zzlaws_root_b1.FnIntRootMatchesBisectionRoot': WHATEVER THE INPUT: true; the input reads as it did. -/
def fnIntRootMatchesBisectionRootSpec : ChangeSpec := { name := "fnIntRootMatchesBisectionRoot", fn := fun _ => fun
  | [d1, d2] => { results := [.lit (.bool true)], args := [d1, d2] }
  | _ => none }
def fnIntRootMatchesBisectionRootRow : OpenClaim := { program := "qxb6619443a", sum := "97eab8f498f0badea15b4b02ba48332d24d2d1021e667aae4d2254667e433679", func := "example.com/mintwell/mintwell/zzlaws_root_b1.FnIntRootMatchesBisectionRoot", spec := "fnIntRootMatchesBisectionRoot", apart := false }
def FnIntRootMatchesBisectionRootSaid : Prop := fnIntRootMatchesBisectionRootRow.holds Try.pinned (OpenSpec.ofChange fnIntRootMatchesBisectionRootSpec)

/-- ITS FALSE NEIGHBOUR: 'it returns false'. Refute it at one input. -/
def fnIntRootMatchesBisectionRootWrong : ChangeSpec := { name := "fnIntRootMatchesBisectionRoot", fn := fun _ => fun
  | [d1, d2] => { results := [.lit (.bool false)], args := [d1, d2] }
  | _ => none }
def FnIntRootMatchesBisectionRootWrongFalsely : Prop := fnIntRootMatchesBisectionRootRow.holds Try.pinned (OpenSpec.ofChange fnIntRootMatchesBisectionRootWrong)

/-- 'zzlaws_root_b1.FnIntRootComposes': WHATEVER THE INPUT: true; the input reads as it did. -/
def fnIntRootComposesSpec : ChangeSpec := { name := "fnIntRootComposes", fn := fun _ => fun
  | [d1, d2, d3] => { results := [.lit (.bool true)], args := [d1, d2, d3] }
  | _ => none }
def fnIntRootComposesRow : OpenClaim := { program := "qxb6619443a", sum := "97eab8f498f0badea15b4b02ba48332d24d2d1021e667aae4d2254667e433679", func := "example.com/mintwell/mintwell/zzlaws_root_b1.FnIntRootComposes", spec := "fnIntRootComposes", apart := false }
def FnIntRootComposesSaid : Prop := fnIntRootComposesRow.holds Try.pinned (OpenSpec.ofChange fnIntRootComposesSpec)

/-- ITS FALSE NEIGHBOUR: 'it returns false'. Refute it at one input. -/
def fnIntRootComposesWrong : ChangeSpec := { name := "fnIntRootComposes", fn := fun _ => fun
  | [d1, d2, d3] => { results := [.lit (.bool false)], args := [d1, d2, d3] }
  | _ => none }
def FnIntRootComposesWrongFalsely : Prop := fnIntRootComposesRow.holds Try.pinned (OpenSpec.ofChange fnIntRootComposesWrong)

/-- 'zzlaws_root_b1.FnNetworkParamsWriteThroughSetsOneField': WHATEVER THE INPUT: true; the input reads as it did. -/
def fnNetworkParamsWriteThroughSetsOneFieldSpec : ChangeSpec := { name := "fnNetworkParamsWriteThroughSetsOneField", fn := fun _ => fun
  | [d1, d2, d3, d4, d5, d6, d7, d8, d9] => { results := [.lit (.bool true)], args := [d1, d2, d3, d4, d5, d6, d7, d8, d9] }
  | _ => none }
def fnNetworkParamsWriteThroughSetsOneFieldRow : OpenClaim := { program := "qxb6619443a", sum := "97eab8f498f0badea15b4b02ba48332d24d2d1021e667aae4d2254667e433679", func := "example.com/mintwell/mintwell/zzlaws_root_b1.FnNetworkParamsWriteThroughSetsOneField", spec := "fnNetworkParamsWriteThroughSetsOneField", apart := false }
def FnNetworkParamsWriteThroughSetsOneFieldSaid : Prop := fnNetworkParamsWriteThroughSetsOneFieldRow.holds Try.pinned (OpenSpec.ofChange fnNetworkParamsWriteThroughSetsOneFieldSpec)

/-- ITS FALSE NEIGHBOUR: 'it returns false'. Refute it at one input. -/
def fnNetworkParamsWriteThroughSetsOneFieldWrong : ChangeSpec := { name := "fnNetworkParamsWriteThroughSetsOneField", fn := fun _ => fun
  | [d1, d2, d3, d4, d5, d6, d7, d8, d9] => { results := [.lit (.bool false)], args := [d1, d2, d3, d4, d5, d6, d7, d8, d9] }
  | _ => none }
def FnNetworkParamsWriteThroughSetsOneFieldWrongFalsely : Prop := fnNetworkParamsWriteThroughSetsOneFieldRow.holds Try.pinned (OpenSpec.ofChange fnNetworkParamsWriteThroughSetsOneFieldWrong)

end Rows
end Go.Proofs.Qxb6619443a
