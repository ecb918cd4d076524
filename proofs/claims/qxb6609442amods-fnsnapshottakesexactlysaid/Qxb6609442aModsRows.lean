/-
  No cell of these rows narrows 'for every input' (looked for: loops, veiled, ifaces, maps, wideKeys, modest, calm, conditions, laid).
  DERIVED. THE GIVEN ROWS OF THIS SEAT. 1 by the template 'for every input the law returns true; each argument reads behind the call as it read before'; 0 by the template 'total and deterministic' (their statements: Qxb6609442aModsTotals.lean).
  GIVEN WITH THE SEED: the statements are not yours to turn. If you find one false, say at which input.
  Laid BY PROGRAM, IN A SANDBOX (cutbox-rows.mjs): the forced cells as the released guide's own fill.sh prints them over the translation b082b90667ecffae… (all of the seat's roots in one cut). By AI agents, Wed Nov 11 2026. No macro, syntax, notation, axiom, sorry.
-/
import Derived.Test.Qxb6609442aModsChecked
import GoSem.Claim
import GoSem.ClaimJoined
import GoSem.ClaimMapViews
import Derived.JoinedTies
import Derived.KernelRfl
namespace Go.Proofs.Qxb6609442aMods
/- THE CELL 'sum', in the pinned program and in every row, IS THE sha256 OF THE DUMP (.gsa) THAT Qxb6609442aModsProg.lean LOADS. Nothing in Lean hashes anything: it is a label: what it is worth is what the hold of that sum in a sandbox is worth. -/
noncomputable def Trym.pinned : Pinned := { name := "qxb6609442amods", sum := "b082b90667ecffaeb2467efb3b499ebda178d8aea10f3b590e7170422e68bbf9", checked := Trym.checked }
namespace Rows
def none {H : Type} : Left H := { results := [], args := [] }

/-- 'zzlaws_internal_tracker_b1.FnSnapshotTakesExactly': WHATEVER THE INPUT: true; the input reads as it did. -/
def fnSnapshotTakesExactlySpec : ChangeSpec := { name := "fnSnapshotTakesExactly", fn := fun _ => fun
  | [d1, d2] => { results := [.lit (.bool true)], args := [d1, d2] }
  | _ => none }
def fnSnapshotTakesExactlyRow : OpenClaim := { program := "qxb6609442amods", sum := "b082b90667ecffaeb2467efb3b499ebda178d8aea10f3b590e7170422e68bbf9", func := "example.com/meerkat/meerkat/zzlaws_internal_tracker_b1.FnSnapshotTakesExactly", spec := "fnSnapshotTakesExactly", make := .lifted ["publicsums"], apart := false }
def FnSnapshotTakesExactlySaid : Prop := fnSnapshotTakesExactlyRow.holds Trym.pinned (OpenSpec.ofChange fnSnapshotTakesExactlySpec)

/-- ITS FALSE NEIGHBOUR: 'it returns false'. Refute it at one input. -/
def fnSnapshotTakesExactlyWrong : ChangeSpec := { name := "fnSnapshotTakesExactly", fn := fun _ => fun
  | [d1, d2] => { results := [.lit (.bool false)], args := [d1, d2] }
  | _ => none }
def FnSnapshotTakesExactlyWrongFalsely : Prop := fnSnapshotTakesExactlyRow.holds Trym.pinned (OpenSpec.ofChange fnSnapshotTakesExactlyWrong)

end Rows
end Go.Proofs.Qxb6609442aMods
