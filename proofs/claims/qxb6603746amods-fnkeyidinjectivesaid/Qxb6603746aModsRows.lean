/-
  No cell of these rows narrows 'for every input' (looked for: loops, veiled, ifaces, maps, wideKeys, modest, calm, conditions, laid).
  DERIVED. THE GIVEN ROWS OF THIS SEAT. 3 by the template 'for every input the law returns true; each argument reads behind the call as it read before'; 0 by the template 'total and deterministic' (their statements: Qxb6603746aModsTotals.lean).
  GIVEN WITH THE SEED: the statements are not yours to turn. If you find one false, say at which input.
  Laid BY PROGRAM, IN A SANDBOX (cutbox-rows.mjs): the forced cells as the released guide's own fill.sh prints them over the translation 1266a59c67bb372f… (all of the seat's roots in one cut). By AI agents, Wed Nov 11 2026. No macro, syntax, notation, axiom, sorry.
-/
import Derived.Test.Qxb6603746aModsChecked
import GoSem.Claim
import GoSem.ClaimJoined
import GoSem.ClaimMapViews
import Derived.JoinedTies
import Derived.KernelRfl
namespace Go.Proofs.Qxb6603746aMods
/- THE CELL 'sum', in the pinned program and in every row, IS THE sha256 OF THE DUMP (.gsa) THAT Qxb6603746aModsProg.lean LOADS. Nothing in Lean hashes anything: it is a label: what it is worth is what the hold of that sum in a sandbox is worth. -/
noncomputable def Trym.pinned : Pinned := { name := "qxb6603746amods", sum := "1266a59c67bb372fe762947ecc34661df6412bb81e7aa6094d0c8e8c02cc6e58", checked := Trym.checked }
namespace Rows
def none {H : Type} : Left H := { results := [], args := [] }

/-- 'zzlaws_internal_store_b1.FnKeyIDRoundTrip': WHATEVER THE INPUT: true; the input reads as it did. -/
def fnKeyIDRoundTripSpec : ChangeSpec := { name := "fnKeyIDRoundTrip", fn := fun _ => fun
  | [d1, d2] => { results := [.lit (.bool true)], args := [d1, d2] }
  | _ => none }
def fnKeyIDRoundTripRow : OpenClaim := { program := "qxb6603746amods", sum := "1266a59c67bb372fe762947ecc34661df6412bb81e7aa6094d0c8e8c02cc6e58", func := "example.com/onceward/onceward/zzlaws_internal_store_b1.FnKeyIDRoundTrip", spec := "fnKeyIDRoundTrip", make := .lifted ["publicsums"], apart := false }
def FnKeyIDRoundTripSaid : Prop := fnKeyIDRoundTripRow.holds Trym.pinned (OpenSpec.ofChange fnKeyIDRoundTripSpec)

/-- ITS FALSE NEIGHBOUR: 'it returns false'. Refute it at one input. -/
def fnKeyIDRoundTripWrong : ChangeSpec := { name := "fnKeyIDRoundTrip", fn := fun _ => fun
  | [d1, d2] => { results := [.lit (.bool false)], args := [d1, d2] }
  | _ => none }
def FnKeyIDRoundTripWrongFalsely : Prop := fnKeyIDRoundTripRow.holds Trym.pinned (OpenSpec.ofChange fnKeyIDRoundTripWrong)

/-- 'zzlaws_internal_store_b1.FnKeyIDInjective': WHATEVER THE INPUT: true; the input reads as it did. -/
def fnKeyIDInjectiveSpec : ChangeSpec := { name := "fnKeyIDInjective", fn := fun _ => fun
  | [d1, d2, d3, d4] => { results := [.lit (.bool true)], args := [d1, d2, d3, d4] }
  | _ => none }
def fnKeyIDInjectiveRow : OpenClaim := { program := "qxb6603746amods", sum := "1266a59c67bb372fe762947ecc34661df6412bb81e7aa6094d0c8e8c02cc6e58", func := "example.com/onceward/onceward/zzlaws_internal_store_b1.FnKeyIDInjective", spec := "fnKeyIDInjective", make := .lifted ["publicsums"], apart := false }
def FnKeyIDInjectiveSaid : Prop := fnKeyIDInjectiveRow.holds Trym.pinned (OpenSpec.ofChange fnKeyIDInjectiveSpec)

/-- ITS FALSE NEIGHBOUR: 'it returns false'. Refute it at one input. -/
def fnKeyIDInjectiveWrong : ChangeSpec := { name := "fnKeyIDInjective", fn := fun _ => fun
  | [d1, d2, d3, d4] => { results := [.lit (.bool false)], args := [d1, d2, d3, d4] }
  | _ => none }
def FnKeyIDInjectiveWrongFalsely : Prop := fnKeyIDInjectiveRow.holds Trym.pinned (OpenSpec.ofChange fnKeyIDInjectiveWrong)

/-- 'zzlaws_internal_store_b1.FnKeyIDOrderWithinScope': WHATEVER THE INPUT: true; the input reads as it did. -/
def fnKeyIDOrderWithinScopeSpec : ChangeSpec := { name := "fnKeyIDOrderWithinScope", fn := fun _ => fun
  | [d1, d2, d3] => { results := [.lit (.bool true)], args := [d1, d2, d3] }
  | _ => none }
def fnKeyIDOrderWithinScopeRow : OpenClaim := { program := "qxb6603746amods", sum := "1266a59c67bb372fe762947ecc34661df6412bb81e7aa6094d0c8e8c02cc6e58", func := "example.com/onceward/onceward/zzlaws_internal_store_b1.FnKeyIDOrderWithinScope", spec := "fnKeyIDOrderWithinScope", make := .lifted ["publicsums"], apart := false }
def FnKeyIDOrderWithinScopeSaid : Prop := fnKeyIDOrderWithinScopeRow.holds Trym.pinned (OpenSpec.ofChange fnKeyIDOrderWithinScopeSpec)

/-- ITS FALSE NEIGHBOUR: 'it returns false'. Refute it at one input. -/
def fnKeyIDOrderWithinScopeWrong : ChangeSpec := { name := "fnKeyIDOrderWithinScope", fn := fun _ => fun
  | [d1, d2, d3] => { results := [.lit (.bool false)], args := [d1, d2, d3] }
  | _ => none }
def FnKeyIDOrderWithinScopeWrongFalsely : Prop := fnKeyIDOrderWithinScopeRow.holds Trym.pinned (OpenSpec.ofChange fnKeyIDOrderWithinScopeWrong)

end Rows
end Go.Proofs.Qxb6603746aMods
