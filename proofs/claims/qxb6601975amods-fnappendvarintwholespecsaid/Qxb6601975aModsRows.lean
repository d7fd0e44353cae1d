/-
  No cell of these rows narrows 'for every input' (looked for: loops, veiled, ifaces, maps, wideKeys, modest, calm, conditions, laid).
  DERIVED. THE GIVEN ROWS OF THIS SEAT. 3 by the template 'for every input the law returns true; each argument reads behind the call as it read before'; 0 by the template 'total and deterministic' (their statements: Qxb6601975aModsTotals.lean).
  GIVEN WITH THE SEED: the statements are not yours to turn. If you find one false, say at which input.
  Laid BY PROGRAM, IN A SANDBOX (cutbox-rows.mjs): the forced cells as the released guide's own fill.sh prints them over the translation 5423513a5a889787… (all of the seat's roots in one cut). By AI agents, Wed Nov 11 2026. No macro, syntax, notation, axiom, sorry.
-/
import Derived.Test.Qxb6601975aModsChecked
import GoSem.Claim
import GoSem.ClaimJoined
import GoSem.ClaimMapViews
import Derived.JoinedTies
import Derived.KernelRfl
namespace Go.Proofs.Qxb6601975aMods
/- THE CELL 'sum', in the pinned program and in every row, IS THE sha256 OF THE DUMP (.gsa) THAT Qxb6601975aModsProg.lean LOADS. Nothing in Lean hashes anything: it is a label: what it is worth is what the hold of that sum in a sandbox is worth. -/
noncomputable def Trym.pinned : Pinned := { name := "qxb6601975amods", sum := "5423513a5a889787ccbf5a30b036778cbc9ab9b8dc13afb20dffa7020975bedd", checked := Trym.checked }
namespace Rows
def none {H : Type} : Left H := { results := [], args := [] }

/-- 'zzlaws_internal_proof_b1.FnAppendVarintWholeSpec': WHATEVER THE INPUT: true; the input reads as it did. -/
def fnAppendVarintWholeSpecSpec : ChangeSpec := { name := "fnAppendVarintWholeSpec", fn := fun _ => fun
  | [d1, d2] => { results := [.lit (.bool true)], args := [d1, d2] }
  | _ => none }
def fnAppendVarintWholeSpecRow : OpenClaim := { program := "qxb6601975amods", sum := "5423513a5a889787ccbf5a30b036778cbc9ab9b8dc13afb20dffa7020975bedd", func := "example.com/hashgrove/hashgrove/zzlaws_internal_proof_b1.FnAppendVarintWholeSpec", spec := "fnAppendVarintWholeSpec", make := .lifted ["publicsums"], apart := false }
def FnAppendVarintWholeSpecSaid : Prop := fnAppendVarintWholeSpecRow.holds Trym.pinned (OpenSpec.ofChange fnAppendVarintWholeSpecSpec)

/-- ITS FALSE NEIGHBOUR: 'it returns false'. Refute it at one input. -/
def fnAppendVarintWholeSpecWrong : ChangeSpec := { name := "fnAppendVarintWholeSpec", fn := fun _ => fun
  | [d1, d2] => { results := [.lit (.bool false)], args := [d1, d2] }
  | _ => none }
def FnAppendVarintWholeSpecWrongFalsely : Prop := fnAppendVarintWholeSpecRow.holds Trym.pinned (OpenSpec.ofChange fnAppendVarintWholeSpecWrong)

/-- 'zzlaws_internal_proof_b1.FnAppendVarintStreamRoundTrip': WHATEVER THE INPUT: true; the input reads as it did. -/
def fnAppendVarintStreamRoundTripSpec : ChangeSpec := { name := "fnAppendVarintStreamRoundTrip", fn := fun _ => fun
  | [d] => { results := [.lit (.bool true)], args := [d] }
  | _ => none }
def fnAppendVarintStreamRoundTripRow : OpenClaim := { program := "qxb6601975amods", sum := "5423513a5a889787ccbf5a30b036778cbc9ab9b8dc13afb20dffa7020975bedd", func := "example.com/hashgrove/hashgrove/zzlaws_internal_proof_b1.FnAppendVarintStreamRoundTrip", spec := "fnAppendVarintStreamRoundTrip", make := .lifted ["publicsums"], apart := false }
def FnAppendVarintStreamRoundTripSaid : Prop := fnAppendVarintStreamRoundTripRow.holds Trym.pinned (OpenSpec.ofChange fnAppendVarintStreamRoundTripSpec)

/-- ITS FALSE NEIGHBOUR: 'it returns false'. Refute it at one input. -/
def fnAppendVarintStreamRoundTripWrong : ChangeSpec := { name := "fnAppendVarintStreamRoundTrip", fn := fun _ => fun
  | [d] => { results := [.lit (.bool false)], args := [d] }
  | _ => none }
def FnAppendVarintStreamRoundTripWrongFalsely : Prop := fnAppendVarintStreamRoundTripRow.holds Trym.pinned (OpenSpec.ofChange fnAppendVarintStreamRoundTripWrong)

/-- 'zzlaws_internal_proof_b1.FnAppendVarintLengthOrderAndPrefixFree': WHATEVER THE INPUT: true; the input reads as it did. -/
def fnAppendVarintLengthOrderAndPrefixFreeSpec : ChangeSpec := { name := "fnAppendVarintLengthOrderAndPrefixFree", fn := fun _ => fun
  | [d1, d2] => { results := [.lit (.bool true)], args := [d1, d2] }
  | _ => none }
def fnAppendVarintLengthOrderAndPrefixFreeRow : OpenClaim := { program := "qxb6601975amods", sum := "5423513a5a889787ccbf5a30b036778cbc9ab9b8dc13afb20dffa7020975bedd", func := "example.com/hashgrove/hashgrove/zzlaws_internal_proof_b1.FnAppendVarintLengthOrderAndPrefixFree", spec := "fnAppendVarintLengthOrderAndPrefixFree", make := .lifted ["publicsums"], apart := false }
def FnAppendVarintLengthOrderAndPrefixFreeSaid : Prop := fnAppendVarintLengthOrderAndPrefixFreeRow.holds Trym.pinned (OpenSpec.ofChange fnAppendVarintLengthOrderAndPrefixFreeSpec)

/-- ITS FALSE NEIGHBOUR: 'it returns false'. Refute it at one input. -/
def fnAppendVarintLengthOrderAndPrefixFreeWrong : ChangeSpec := { name := "fnAppendVarintLengthOrderAndPrefixFree", fn := fun _ => fun
  | [d1, d2] => { results := [.lit (.bool false)], args := [d1, d2] }
  | _ => none }
def FnAppendVarintLengthOrderAndPrefixFreeWrongFalsely : Prop := fnAppendVarintLengthOrderAndPrefixFreeRow.holds Trym.pinned (OpenSpec.ofChange fnAppendVarintLengthOrderAndPrefixFreeWrong)

end Rows
end Go.Proofs.Qxb6601975aMods
