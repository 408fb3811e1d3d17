/-
  No cell of these rows narrows 'for every input' (looked for: loops, veiled, ifaces, maps, wideKeys, modest, calm, conditions, laid).
  DERIVED. THE GIVEN ROWS OF THIS SEAT. 2 by the template 'for every input the law returns true; each argument reads behind the call as it read before'; 0 by the template 'total and deterministic' (their statements: Qxb6604487aModsTotals.lean).
  GIVEN WITH THE SEED: the statements are not yours to turn. If you find one false, say at which input.
  Laid BY PROGRAM, IN A SANDBOX (cutbox-rows.mjs): the forced cells as the released guide's own fill.sh prints them over the translation 4e2079c8c44586d2… (all of the seat's roots in one cut). By AI agents, Wed Nov 11 2026. No macro, syntax, notation, axiom, sorry.
-/
import Derived.Test.Qxb6604487aModsChecked
import GoSem.Claim
import GoSem.ClaimJoined
import GoSem.ClaimMapViews
import Derived.JoinedTies
import Derived.KernelRfl
namespace Go.Proofs.Qxb6604487aMods
/- THE CELL 'sum', in the pinned program and in every row, IS THE sha256 OF THE DUMP (.gsa) THAT Qxb6604487aModsProg.lean LOADS. Nothing in Lean hashes anything: it is a label: what it is worth is what the hold of that sum in a sandbox is worth. -/
noncomputable def Trym.pinned : Pinned := { name := "qxb6604487amods", sum := "4e2079c8c44586d23b22f4c40751b3bfdbded582a29c1ab7285455be43f62f76", checked := Trym.checked }
namespace Rows
def none {H : Type} : Left H := { results := [], args := [] }

/-- 'zzlaws_internal_store_b1.FnValidNameMatchesAlphabetTable': WHATEVER THE INPUT: true; the input reads as it did. -/
def fnValidNameMatchesAlphabetTableSpec : ChangeSpec := { name := "fnValidNameMatchesAlphabetTable", fn := fun _ => fun
  | [d] => { results := [.lit (.bool true)], args := [d] }
  | _ => none }
def fnValidNameMatchesAlphabetTableRow : OpenClaim := { program := "qxb6604487amods", sum := "4e2079c8c44586d23b22f4c40751b3bfdbded582a29c1ab7285455be43f62f76", func := "example.com/onceward/onceward/zzlaws_internal_store_b1.FnValidNameMatchesAlphabetTable", spec := "fnValidNameMatchesAlphabetTable", make := .lifted ["publicsums"], apart := false }
def FnValidNameMatchesAlphabetTableSaid : Prop := fnValidNameMatchesAlphabetTableRow.holds Trym.pinned (OpenSpec.ofChange fnValidNameMatchesAlphabetTableSpec)

/-- ITS FALSE NEIGHBOUR: 'it returns false'. Refute it at one input. -/
def fnValidNameMatchesAlphabetTableWrong : ChangeSpec := { name := "fnValidNameMatchesAlphabetTable", fn := fun _ => fun
  | [d] => { results := [.lit (.bool false)], args := [d] }
  | _ => none }
def FnValidNameMatchesAlphabetTableWrongFalsely : Prop := fnValidNameMatchesAlphabetTableRow.holds Trym.pinned (OpenSpec.ofChange fnValidNameMatchesAlphabetTableWrong)

/-- 'zzlaws_internal_store_b1.FnValidNameCountsReversalAndCase': WHATEVER THE INPUT: true; the input reads as it did. -/
def fnValidNameCountsReversalAndCaseSpec : ChangeSpec := { name := "fnValidNameCountsReversalAndCase", fn := fun _ => fun
  | [d] => { results := [.lit (.bool true)], args := [d] }
  | _ => none }
def fnValidNameCountsReversalAndCaseRow : OpenClaim := { program := "qxb6604487amods", sum := "4e2079c8c44586d23b22f4c40751b3bfdbded582a29c1ab7285455be43f62f76", func := "example.com/onceward/onceward/zzlaws_internal_store_b1.FnValidNameCountsReversalAndCase", spec := "fnValidNameCountsReversalAndCase", make := .lifted ["publicsums"], apart := false }
def FnValidNameCountsReversalAndCaseSaid : Prop := fnValidNameCountsReversalAndCaseRow.holds Trym.pinned (OpenSpec.ofChange fnValidNameCountsReversalAndCaseSpec)

/-- ITS FALSE NEIGHBOUR: 'it returns false'. Refute it at one input. -/
def fnValidNameCountsReversalAndCaseWrong : ChangeSpec := { name := "fnValidNameCountsReversalAndCase", fn := fun _ => fun
  | [d] => { results := [.lit (.bool false)], args := [d] }
  | _ => none }
def FnValidNameCountsReversalAndCaseWrongFalsely : Prop := fnValidNameCountsReversalAndCaseRow.holds Trym.pinned (OpenSpec.ofChange fnValidNameCountsReversalAndCaseWrong)

end Rows
end Go.Proofs.Qxb6604487aMods
