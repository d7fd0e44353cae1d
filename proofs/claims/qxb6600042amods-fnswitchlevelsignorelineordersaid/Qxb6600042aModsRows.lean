/-
  No cell of these rows narrows 'for every input' (looked for: loops, veiled, ifaces, maps, wideKeys, modest, calm, conditions, laid).
  DERIVED. THE GIVEN ROWS OF THIS SEAT. 4 by the template 'for every input the law returns true; each argument reads behind the call as it read before'; 0 by the template 'total and deterministic' (their statements: Qxb6600042aModsTotals.lean).
  GIVEN WITH THE SEED: the statements are not yours to turn. If you find one false, say at which input.
  Laid BY PROGRAM, IN A SANDBOX (cutbox-rows.mjs): the forced cells as the released guide's own fill.sh prints them over the translation 9e742207a7e9fd1f… (all of the seat's roots in one cut). By AI agents, Wed Nov 11 2026. No macro, syntax, notation, axiom, sorry.
-/
import Derived.Test.Qxb6600042aModsChecked
import GoSem.Claim
import GoSem.ClaimJoined
import GoSem.ClaimMapViews
import Derived.JoinedTies
import Derived.KernelRfl
namespace Go.Proofs.Qxb6600042aMods
/- THE CELL 'sum', in the pinned program and in every row, IS THE sha256 OF THE DUMP (.gsa) THAT Qxb6600042aModsProg.lean LOADS. Nothing in Lean hashes anything: it is a label: what it is worth is what the hold of that sum in a sandbox is worth. -/
noncomputable def Trym.pinned : Pinned := { name := "qxb6600042amods", sum := "9e742207a7e9fd1feaddf6dcce4ab504969d8c41c1dafae29ca8365cd182db75", checked := Trym.checked }
namespace Rows
def none {H : Type} : Left H := { results := [], args := [] }

/-- 'zzlaws_input_b1.FnSwitchLevelsMatchDepthFirstModel': WHATEVER THE INPUT: true; the input reads as it did. -/
def fnSwitchLevelsMatchDepthFirstModelSpec : ChangeSpec := { name := "fnSwitchLevelsMatchDepthFirstModel", fn := fun _ => fun
  | [d1, d2] => { results := [.lit (.bool true)], args := [d1, d2] }
  | _ => none }
def fnSwitchLevelsMatchDepthFirstModelRow : OpenClaim := { program := "qxb6600042amods", sum := "9e742207a7e9fd1feaddf6dcce4ab504969d8c41c1dafae29ca8365cd182db75", func := "example.com/rackwise/rackwise/zzlaws_input_b1.FnSwitchLevelsMatchDepthFirstModel", spec := "fnSwitchLevelsMatchDepthFirstModel", recurses := true, make := .lifted ["publicsums"], apart := false }
def FnSwitchLevelsMatchDepthFirstModelSaid : Prop := fnSwitchLevelsMatchDepthFirstModelRow.holds Trym.pinned (OpenSpec.ofChange fnSwitchLevelsMatchDepthFirstModelSpec)

/-- ITS FALSE NEIGHBOUR: 'it returns false'. Refute it at one input. -/
def fnSwitchLevelsMatchDepthFirstModelWrong : ChangeSpec := { name := "fnSwitchLevelsMatchDepthFirstModel", fn := fun _ => fun
  | [d1, d2] => { results := [.lit (.bool false)], args := [d1, d2] }
  | _ => none }
def FnSwitchLevelsMatchDepthFirstModelWrongFalsely : Prop := fnSwitchLevelsMatchDepthFirstModelRow.holds Trym.pinned (OpenSpec.ofChange fnSwitchLevelsMatchDepthFirstModelWrong)

/-- 'zzlaws_input_b1.FnSwitchLevelsIgnoreLineOrder': WHATEVER THE INPUT: true; the input reads as it did. -/
def fnSwitchLevelsIgnoreLineOrderSpec : ChangeSpec := { name := "fnSwitchLevelsIgnoreLineOrder", fn := fun _ => fun
  | [d1, d2] => { results := [.lit (.bool true)], args := [d1, d2] }
  | _ => none }
def fnSwitchLevelsIgnoreLineOrderRow : OpenClaim := { program := "qxb6600042amods", sum := "9e742207a7e9fd1feaddf6dcce4ab504969d8c41c1dafae29ca8365cd182db75", func := "example.com/rackwise/rackwise/zzlaws_input_b1.FnSwitchLevelsIgnoreLineOrder", spec := "fnSwitchLevelsIgnoreLineOrder", make := .lifted ["publicsums"], apart := false }
def FnSwitchLevelsIgnoreLineOrderSaid : Prop := fnSwitchLevelsIgnoreLineOrderRow.holds Trym.pinned (OpenSpec.ofChange fnSwitchLevelsIgnoreLineOrderSpec)

/-- ITS FALSE NEIGHBOUR: 'it returns false'. Refute it at one input. -/
def fnSwitchLevelsIgnoreLineOrderWrong : ChangeSpec := { name := "fnSwitchLevelsIgnoreLineOrder", fn := fun _ => fun
  | [d1, d2] => { results := [.lit (.bool false)], args := [d1, d2] }
  | _ => none }
def FnSwitchLevelsIgnoreLineOrderWrongFalsely : Prop := fnSwitchLevelsIgnoreLineOrderRow.holds Trym.pinned (OpenSpec.ofChange fnSwitchLevelsIgnoreLineOrderWrong)

/-- 'zzlaws_input_b1.FnDomainLoopIsALoopOrNoneExists': WHATEVER THE INPUT: true; the input reads as it did. -/
def fnDomainLoopIsALoopOrNoneExistsSpec : ChangeSpec := { name := "fnDomainLoopIsALoopOrNoneExists", fn := fun _ => fun
  | [d] => { results := [.lit (.bool true)], args := [d] }
  | _ => none }
def fnDomainLoopIsALoopOrNoneExistsRow : OpenClaim := { program := "qxb6600042amods", sum := "9e742207a7e9fd1feaddf6dcce4ab504969d8c41c1dafae29ca8365cd182db75", func := "example.com/rackwise/rackwise/zzlaws_input_b1.FnDomainLoopIsALoopOrNoneExists", spec := "fnDomainLoopIsALoopOrNoneExists", make := .lifted ["publicsums"], apart := false }
def FnDomainLoopIsALoopOrNoneExistsSaid : Prop := fnDomainLoopIsALoopOrNoneExistsRow.holds Trym.pinned (OpenSpec.ofChange fnDomainLoopIsALoopOrNoneExistsSpec)

/-- ITS FALSE NEIGHBOUR: 'it returns false'. Refute it at one input. -/
def fnDomainLoopIsALoopOrNoneExistsWrong : ChangeSpec := { name := "fnDomainLoopIsALoopOrNoneExists", fn := fun _ => fun
  | [d] => { results := [.lit (.bool false)], args := [d] }
  | _ => none }
def FnDomainLoopIsALoopOrNoneExistsWrongFalsely : Prop := fnDomainLoopIsALoopOrNoneExistsRow.holds Trym.pinned (OpenSpec.ofChange fnDomainLoopIsALoopOrNoneExistsWrong)

/-- 'zzlaws_input_b1.FnDomainLoopIsTheOneMetFirst': WHATEVER THE INPUT: true; the input reads as it did. -/
def fnDomainLoopIsTheOneMetFirstSpec : ChangeSpec := { name := "fnDomainLoopIsTheOneMetFirst", fn := fun _ => fun
  | [d] => { results := [.lit (.bool true)], args := [d] }
  | _ => none }
def fnDomainLoopIsTheOneMetFirstRow : OpenClaim := { program := "qxb6600042amods", sum := "9e742207a7e9fd1feaddf6dcce4ab504969d8c41c1dafae29ca8365cd182db75", func := "example.com/rackwise/rackwise/zzlaws_input_b1.FnDomainLoopIsTheOneMetFirst", spec := "fnDomainLoopIsTheOneMetFirst", make := .lifted ["publicsums"], apart := false }
def FnDomainLoopIsTheOneMetFirstSaid : Prop := fnDomainLoopIsTheOneMetFirstRow.holds Trym.pinned (OpenSpec.ofChange fnDomainLoopIsTheOneMetFirstSpec)

/-- ITS FALSE NEIGHBOUR: 'it returns false'. Refute it at one input. -/
def fnDomainLoopIsTheOneMetFirstWrong : ChangeSpec := { name := "fnDomainLoopIsTheOneMetFirst", fn := fun _ => fun
  | [d] => { results := [.lit (.bool false)], args := [d] }
  | _ => none }
def FnDomainLoopIsTheOneMetFirstWrongFalsely : Prop := fnDomainLoopIsTheOneMetFirstRow.holds Trym.pinned (OpenSpec.ofChange fnDomainLoopIsTheOneMetFirstWrong)

end Rows
end Go.Proofs.Qxb6600042aMods
