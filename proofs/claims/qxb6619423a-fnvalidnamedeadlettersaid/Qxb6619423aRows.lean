/-
  No cell of these rows narrows 'for every input' (looked for: loops, veiled, ifaces, maps, wideKeys, modest, calm, conditions, laid).
  DERIVED. THE GIVEN ROWS OF THIS SEAT. 2 by the template 'for every input the law returns true; each argument reads behind the call as it read before'; 0 by the template 'total and deterministic' (their statements: Qxb6619423aTotals.lean).
  GIVEN WITH THE SEED: the statements are not yours to turn. If you find one false, say at which input.
  Laid BY PROGRAM, IN A SANDBOX (cutbox-rows.mjs): the forced cells as the released guide's own fill.sh prints them over the translation b0d8b4e624620f8d… (all of the seat's roots in one cut). By AI agents, Wed Nov 11 2026. No macro, syntax, notation, axiom, sorry.
-/
import Derived.Test.Qxb6619423aChecked
import GoSem.Claim
import GoSem.ClaimJoined
import GoSem.ClaimMapViews
import Derived.JoinedTies
import Derived.KernelRfl
namespace Go.Proofs.Qxb6619423a
/- THE CELL 'sum', in the pinned program and in every row, IS THE sha256 OF THE DUMP (.gsa) THAT Qxb6619423aProg.lean LOADS. Nothing in Lean hashes anything: it is a label: what it is worth is what the hold of that sum in a sandbox is worth. -/
noncomputable def Try.pinned : Pinned := { name := "qxb6619423a", sum := "b0d8b4e624620f8ddb176bbd3736b269f182fe8ee494f4d48e963969d3da3a2e", checked := Try.checked }
namespace Rows
def none {H : Type} : Left H := { results := [], args := [] }

/-- 'zzlaws_pkg_queue_b1.FnValidNameClosedForm': WHATEVER THE INPUT: true; the input reads as it did. -/
def fnValidNameClosedFormSpec : ChangeSpec := { name := "fnValidNameClosedForm", fn := fun _ => fun
  | [d] => { results := [.lit (.bool true)], args := [d] }
  | _ => none }
def fnValidNameClosedFormRow : OpenClaim := { program := "qxb6619423a", sum := "b0d8b4e624620f8ddb176bbd3736b269f182fe8ee494f4d48e963969d3da3a2e", func := "example.com/ferry/ferry/zzlaws_pkg_queue_b1.FnValidNameClosedForm", spec := "fnValidNameClosedForm", apart := false }
def FnValidNameClosedFormSaid : Prop := fnValidNameClosedFormRow.holds Try.pinned (OpenSpec.ofChange fnValidNameClosedFormSpec)

/-- ITS FALSE NEIGHBOUR: 'it returns false'. Refute it at one input. -/
def fnValidNameClosedFormWrong : ChangeSpec := { name := "fnValidNameClosedForm", fn := fun _ => fun
  | [d] => { results := [.lit (.bool false)], args := [d] }
  | _ => none }
def FnValidNameClosedFormWrongFalsely : Prop := fnValidNameClosedFormRow.holds Try.pinned (OpenSpec.ofChange fnValidNameClosedFormWrong)

/-- 'zzlaws_pkg_queue_b1.FnValidNameDeadLetter': WHATEVER THE INPUT: true; the input reads as it did. -/
def fnValidNameDeadLetterSpec : ChangeSpec := { name := "fnValidNameDeadLetter", fn := fun _ => fun
  | [d] => { results := [.lit (.bool true)], args := [d] }
  | _ => none }
def fnValidNameDeadLetterRow : OpenClaim := { program := "qxb6619423a", sum := "b0d8b4e624620f8ddb176bbd3736b269f182fe8ee494f4d48e963969d3da3a2e", func := "example.com/ferry/ferry/zzlaws_pkg_queue_b1.FnValidNameDeadLetter", spec := "fnValidNameDeadLetter", apart := false }
def FnValidNameDeadLetterSaid : Prop := fnValidNameDeadLetterRow.holds Try.pinned (OpenSpec.ofChange fnValidNameDeadLetterSpec)

/-- ITS FALSE NEIGHBOUR: 'it returns false'. Refute it at one input. -/
def fnValidNameDeadLetterWrong : ChangeSpec := { name := "fnValidNameDeadLetter", fn := fun _ => fun
  | [d] => { results := [.lit (.bool false)], args := [d] }
  | _ => none }
def FnValidNameDeadLetterWrongFalsely : Prop := fnValidNameDeadLetterRow.holds Try.pinned (OpenSpec.ofChange fnValidNameDeadLetterWrong)

end Rows
end Go.Proofs.Qxb6619423a
