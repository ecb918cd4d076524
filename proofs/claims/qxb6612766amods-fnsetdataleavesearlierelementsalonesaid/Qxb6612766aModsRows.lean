/-
  No cell of these rows narrows 'for every input' (looked for: loops, veiled, ifaces, maps, wideKeys, modest, calm, conditions, laid).
  DERIVED. THE GIVEN ROWS OF THIS SEAT. 1 by the template 'for every input the law returns true; each argument reads behind the call as it read before'; 0 by the template 'total and deterministic' (their statements: Qxb6612766aModsTotals.lean).
  GIVEN WITH THE SEED: the statements are not yours to turn. If you find one false, say at which input.
  Laid BY PROGRAM, IN A SANDBOX (cutbox-rows.mjs): the forced cells as the released guide's own fill.sh prints them over the translation 74a544a5fab8f89b… (all of the seat's roots in one cut). By AI agents, Wed Nov 11 2026. No macro, syntax, notation, axiom, sorry.
-/
import Derived.Test.Qxb6612766aModsChecked
import GoSem.Claim
import GoSem.ClaimJoined
import GoSem.ClaimMapViews
import Derived.JoinedTies
import Derived.KernelRfl
namespace Go.Proofs.Qxb6612766aMods
/- THE CELL 'sum', in the pinned program and in every row, IS THE sha256 OF THE DUMP (.gsa) THAT Qxb6612766aModsProg.lean LOADS. Nothing in Lean hashes anything: it is a label: what it is worth is what the hold of that sum in a sandbox is worth. -/
noncomputable def Trym.pinned : Pinned := { name := "qxb6612766amods", sum := "74a544a5fab8f89bc7ec2a2c73eba31ce2c19e14fdabd9bedde61ffd06b1aa6d", checked := Trym.checked }
namespace Rows
def none {H : Type} : Left H := { results := [], args := [] }

/-- 'zzlaws_internal_store_b1.FnSetDataLeavesEarlierElementsAlone': WHATEVER THE INPUT: true; the input reads as it did. -/
def fnSetDataLeavesEarlierElementsAloneSpec : ChangeSpec := { name := "fnSetDataLeavesEarlierElementsAlone", fn := fun _ => fun
  | [d1, d2] => { results := [.lit (.bool true)], args := [d1, d2] }
  | _ => none }
def fnSetDataLeavesEarlierElementsAloneRow : OpenClaim := { program := "qxb6612766amods", sum := "74a544a5fab8f89bc7ec2a2c73eba31ce2c19e14fdabd9bedde61ffd06b1aa6d", func := "example.com/consistent-list-watch/consistent-list-watch/zzlaws_internal_store_b1.FnSetDataLeavesEarlierElementsAlone", spec := "fnSetDataLeavesEarlierElementsAlone", make := .lifted ["publicsums"], apart := false }
def FnSetDataLeavesEarlierElementsAloneSaid : Prop := fnSetDataLeavesEarlierElementsAloneRow.holds Trym.pinned (OpenSpec.ofChange fnSetDataLeavesEarlierElementsAloneSpec)

/-- ITS FALSE NEIGHBOUR: 'it returns false'. Refute it at one input. -/
def fnSetDataLeavesEarlierElementsAloneWrong : ChangeSpec := { name := "fnSetDataLeavesEarlierElementsAlone", fn := fun _ => fun
  | [d1, d2] => { results := [.lit (.bool false)], args := [d1, d2] }
  | _ => none }
def FnSetDataLeavesEarlierElementsAloneWrongFalsely : Prop := fnSetDataLeavesEarlierElementsAloneRow.holds Trym.pinned (OpenSpec.ofChange fnSetDataLeavesEarlierElementsAloneWrong)

end Rows
end Go.Proofs.Qxb6612766aMods
