/-
  No cell of these rows narrows 'for every input' (looked for: loops, veiled, ifaces, maps, wideKeys, modest, calm, conditions, laid).
  DERIVED. THE GIVEN ROWS OF THIS SEAT. 1 by the template 'for every input the law returns true; each argument reads behind the call as it read before'; 0 by the template 'total and deterministic' (their statements: Qxb6604148aModsTotals.lean).
  GIVEN WITH THE SEED: the statements are not yours to turn. If you find one false, say at which input.
  Laid BY PROGRAM, IN A SANDBOX (cutbox-rows.mjs): the forced cells as the released guide's own fill.sh prints them over the translation 732af4ec9384f294… (all of the seat's roots in one cut). By AI agents, Wed Nov 11 2026. No macro, syntax, notation, axiom, sorry.
-/
import Derived.Test.Qxb6604148aModsChecked
import GoSem.Claim
import GoSem.ClaimJoined
import GoSem.ClaimMapViews
import Derived.JoinedTies
import Derived.KernelRfl
namespace Go.Proofs.Qxb6604148aMods
/- THE CELL 'sum', in the pinned program and in every row, IS THE sha256 OF THE DUMP (.gsa) THAT Qxb6604148aModsProg.lean LOADS. Nothing in Lean hashes anything: it is a label: what it is worth is what the hold of that sum in a sandbox is worth. -/
noncomputable def Trym.pinned : Pinned := { name := "qxb6604148amods", sum := "732af4ec9384f2948f4971fd4501a33a12683604844e95a262a13715bb89047e", checked := Trym.checked }
namespace Rows
def none {H : Type} : Left H := { results := [], args := [] }

/-- 'zzlaws_root_b1.FnAddHoldsExactlyTheNumbersAdded': WHATEVER THE INPUT: true; the input reads as it did. -/
def fnAddHoldsExactlyTheNumbersAddedSpec : ChangeSpec := { name := "fnAddHoldsExactlyTheNumbersAdded", fn := fun _ => fun
  | [d] => { results := [.lit (.bool true)], args := [d] }
  | _ => none }
def fnAddHoldsExactlyTheNumbersAddedRow : OpenClaim := { program := "qxb6604148amods", sum := "732af4ec9384f2948f4971fd4501a33a12683604844e95a262a13715bb89047e", func := "example.com/oyster/oyster/zzlaws_root_b1.FnAddHoldsExactlyTheNumbersAdded", spec := "fnAddHoldsExactlyTheNumbersAdded", make := .lifted ["publicsums"], apart := false }
def FnAddHoldsExactlyTheNumbersAddedSaid : Prop := fnAddHoldsExactlyTheNumbersAddedRow.holds Trym.pinned (OpenSpec.ofChange fnAddHoldsExactlyTheNumbersAddedSpec)

/-- ITS FALSE NEIGHBOUR: 'it returns false'. Refute it at one input. -/
def fnAddHoldsExactlyTheNumbersAddedWrong : ChangeSpec := { name := "fnAddHoldsExactlyTheNumbersAdded", fn := fun _ => fun
  | [d] => { results := [.lit (.bool false)], args := [d] }
  | _ => none }
def FnAddHoldsExactlyTheNumbersAddedWrongFalsely : Prop := fnAddHoldsExactlyTheNumbersAddedRow.holds Trym.pinned (OpenSpec.ofChange fnAddHoldsExactlyTheNumbersAddedWrong)

end Rows
end Go.Proofs.Qxb6604148aMods
