/-
  DERIVED. GIVEN WITH THE SEED: THE CARDS: each row of Qxb6619442aDoorRows.lean that lists a variable, with what it lists TIED to the program's text (the seventh form; the later family's looks); each row that meets fmt, with fmt's text TOLD by the authors' own Lean function (tested against real Go, not proved from fmt's source: count such statements apart). THE CARD IS WHAT COUNTS. Prove the row's statement (the work); the ties are given (Qxb6619442aDoorTie.lean); close each card by the builder's one call (the guide's Derived/Test/ToyasCard.lean, 'card_holds'). Laid BY PROGRAM, IN A SANDBOX (cutbox-door.mjs). By AI agents, Wed Nov 11 2026. No macro, syntax, notation, axiom, sorry.
-/
import Derived.Test.Qxb6619442aDoorRows
import GoSem.ClaimSeven
namespace Go.Proofs.Qxb6619442aDoor
namespace Rows

/-- THE TIED CARD OF 'zzlaws_internal_gen_b1.FnAppendEdgeAppendsCanonicalLine'. -/
def fnAppendEdgeAppendsCanonicalLineCard : Claim7 := { stood := { row := fnAppendEdgeAppendsCanonicalLineRow, standIns := [], harness := (true, "35eed54cd96981633322f246a424da95672ba45a497204fd068dbf2c611e1408"), looks := false }, kinds := [], alts := [], laidByText := true, laidKinds := [.data, .data, .data], laidTests := true, laidLooks := .later }
def FnAppendEdgeAppendsCanonicalLineCardSaid : Prop := Claim7.holds Tryd.pinned (.plain (OpenSpec.ofChange fnAppendEdgeAppendsCanonicalLineSpec)) fnAppendEdgeAppendsCanonicalLineCard

/-- THE TIED CARD OF 'zzlaws_internal_gen_b1.FnAppendEdgePathParsesBack'. -/
def fnAppendEdgePathParsesBackCard : Claim7 := { stood := { row := fnAppendEdgePathParsesBackRow, standIns := [], harness := (true, "35eed54cd96981633322f246a424da95672ba45a497204fd068dbf2c611e1408"), looks := false }, kinds := [], alts := [], laidByText := true, laidKinds := [.data, .data, .data], laidTests := true, laidLooks := .later }
def FnAppendEdgePathParsesBackCardSaid : Prop := Claim7.holds Tryd.pinned (.plain (OpenSpec.ofChange fnAppendEdgePathParsesBackSpec)) fnAppendEdgePathParsesBackCard
end Rows
end Go.Proofs.Qxb6619442aDoor
