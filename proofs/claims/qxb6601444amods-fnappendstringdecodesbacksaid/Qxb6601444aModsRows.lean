/-
  No cell of these rows narrows 'for every input' (looked for: loops, veiled, ifaces, maps, wideKeys, modest, calm, conditions, laid).
  DERIVED. THE GIVEN ROWS OF THIS SEAT. 3 by the template 'for every input the law returns true; each argument reads behind the call as it read before'; 0 by the template 'total and deterministic' (their statements: Qxb6601444aModsTotals.lean).
  GIVEN WITH THE SEED: the statements are not yours to turn. If you find one false, say at which input.
  Laid BY PROGRAM, IN A SANDBOX (cutbox-rows.mjs): the forced cells as the released guide's own fill.sh prints them over the translation 0bb51ee1d0080ee1… (all of the seat's roots in one cut). By AI agents, Wed Nov 11 2026. No macro, syntax, notation, axiom, sorry.
-/
import Derived.Test.Qxb6601444aModsChecked
import GoSem.Claim
import GoSem.ClaimJoined
import GoSem.ClaimMapViews
import Derived.JoinedTies
import Derived.KernelRfl
namespace Go.Proofs.Qxb6601444aMods
/- THE CELL 'sum', in the pinned program and in every row, IS THE sha256 OF THE DUMP (.gsa) THAT Qxb6601444aModsProg.lean LOADS. Nothing in Lean hashes anything: it is a label: what it is worth is what the hold of that sum in a sandbox is worth. -/
noncomputable def Trym.pinned : Pinned := { name := "qxb6601444amods", sum := "0bb51ee1d0080ee10789bde9c9d20d332f7888ba525507dbd3674bf8ca9b9e62", checked := Trym.checked }
namespace Rows
def none {H : Type} : Left H := { results := [], args := [] }

/-- 'zzlaws_internal_snapshot_b1.FnDecimalIsCanonicalIntBelow1e18': WHATEVER THE INPUT: true; the input reads as it did. -/
def fnDecimalIsCanonicalIntBelow1e18Spec : ChangeSpec := { name := "fnDecimalIsCanonicalIntBelow1e18", fn := fun _ => fun
  | [d] => { results := [.lit (.bool true)], args := [d] }
  | _ => none }
def fnDecimalIsCanonicalIntBelow1e18Row : OpenClaim := { program := "qxb6601444amods", sum := "0bb51ee1d0080ee10789bde9c9d20d332f7888ba525507dbd3674bf8ca9b9e62", func := "example.com/rollstep/rollstep/zzlaws_internal_snapshot_b1.FnDecimalIsCanonicalIntBelow1e18", spec := "fnDecimalIsCanonicalIntBelow1e18", make := .lifted ["publicsums"], apart := false }
def FnDecimalIsCanonicalIntBelow1e18Said : Prop := fnDecimalIsCanonicalIntBelow1e18Row.holds Trym.pinned (OpenSpec.ofChange fnDecimalIsCanonicalIntBelow1e18Spec)

/-- ITS FALSE NEIGHBOUR: 'it returns false'. Refute it at one input. -/
def fnDecimalIsCanonicalIntBelow1e18Wrong : ChangeSpec := { name := "fnDecimalIsCanonicalIntBelow1e18", fn := fun _ => fun
  | [d] => { results := [.lit (.bool false)], args := [d] }
  | _ => none }
def FnDecimalIsCanonicalIntBelow1e18WrongFalsely : Prop := fnDecimalIsCanonicalIntBelow1e18Row.holds Trym.pinned (OpenSpec.ofChange fnDecimalIsCanonicalIntBelow1e18Wrong)

/-- 'zzlaws_internal_snapshot_b1.FnDecimalAcceptsIntRenderingIffBelow1e18': WHATEVER THE INPUT: true; the input reads as it did. -/
def fnDecimalAcceptsIntRenderingIffBelow1e18Spec : ChangeSpec := { name := "fnDecimalAcceptsIntRenderingIffBelow1e18", fn := fun _ => fun
  | [d] => { results := [.lit (.bool true)], args := [d] }
  | _ => none }
def fnDecimalAcceptsIntRenderingIffBelow1e18Row : OpenClaim := { program := "qxb6601444amods", sum := "0bb51ee1d0080ee10789bde9c9d20d332f7888ba525507dbd3674bf8ca9b9e62", func := "example.com/rollstep/rollstep/zzlaws_internal_snapshot_b1.FnDecimalAcceptsIntRenderingIffBelow1e18", spec := "fnDecimalAcceptsIntRenderingIffBelow1e18", make := .lifted ["publicsums"], apart := false }
def FnDecimalAcceptsIntRenderingIffBelow1e18Said : Prop := fnDecimalAcceptsIntRenderingIffBelow1e18Row.holds Trym.pinned (OpenSpec.ofChange fnDecimalAcceptsIntRenderingIffBelow1e18Spec)

/-- ITS FALSE NEIGHBOUR: 'it returns false'. Refute it at one input. -/
def fnDecimalAcceptsIntRenderingIffBelow1e18Wrong : ChangeSpec := { name := "fnDecimalAcceptsIntRenderingIffBelow1e18", fn := fun _ => fun
  | [d] => { results := [.lit (.bool false)], args := [d] }
  | _ => none }
def FnDecimalAcceptsIntRenderingIffBelow1e18WrongFalsely : Prop := fnDecimalAcceptsIntRenderingIffBelow1e18Row.holds Trym.pinned (OpenSpec.ofChange fnDecimalAcceptsIntRenderingIffBelow1e18Wrong)

/-- 'zzlaws_internal_snapshot_b1.FnAppendStringDecodesBack': WHATEVER THE INPUT: true; the input reads as it did. -/
def fnAppendStringDecodesBackSpec : ChangeSpec := { name := "fnAppendStringDecodesBack", fn := fun _ => fun
  | [d1, d2] => { results := [.lit (.bool true)], args := [d1, d2] }
  | _ => none }
def fnAppendStringDecodesBackRow : OpenClaim := { program := "qxb6601444amods", sum := "0bb51ee1d0080ee10789bde9c9d20d332f7888ba525507dbd3674bf8ca9b9e62", func := "example.com/rollstep/rollstep/zzlaws_internal_snapshot_b1.FnAppendStringDecodesBack", spec := "fnAppendStringDecodesBack", make := .lifted ["publicsums"], apart := false }
def FnAppendStringDecodesBackSaid : Prop := fnAppendStringDecodesBackRow.holds Trym.pinned (OpenSpec.ofChange fnAppendStringDecodesBackSpec)

/-- ITS FALSE NEIGHBOUR: 'it returns false'. Refute it at one input. -/
def fnAppendStringDecodesBackWrong : ChangeSpec := { name := "fnAppendStringDecodesBack", fn := fun _ => fun
  | [d1, d2] => { results := [.lit (.bool false)], args := [d1, d2] }
  | _ => none }
def FnAppendStringDecodesBackWrongFalsely : Prop := fnAppendStringDecodesBackRow.holds Trym.pinned (OpenSpec.ofChange fnAppendStringDecodesBackWrong)

end Rows
end Go.Proofs.Qxb6601444aMods
