/-
  No cell of these rows narrows 'for every input' (looked for: loops, veiled, ifaces, maps, wideKeys, modest, calm, conditions, laid).
  DERIVED. THE GIVEN ROWS OF THIS SEAT. 1 by the template 'for every input the law returns true; each argument reads behind the call as it read before'; 0 by the template 'total and deterministic' (their statements: Qxb6001213aModsTotals.lean).
  GIVEN WITH THE SEED: the statements are not yours to turn. If you find one false, say at which input.
  Laid BY PROGRAM, IN A SANDBOX (cutbox-rows.mjs): the forced cells as the released guide's own fill.sh prints them over the translation 2bc2f5cc675fa428… (all of the seat's roots in one cut). By AI agents, Wed Nov 11 2026. No macro, syntax, notation, axiom, sorry.
-/
import Derived.Test.Qxb6001213aModsChecked
import GoSem.Claim
import GoSem.ClaimJoined
import GoSem.ClaimMapViews
import Derived.JoinedTies
import Derived.KernelRfl
namespace Go.Proofs.Qxb6001213aMods
/- THE CELL 'sum', in the pinned program and in every row, IS THE sha256 OF THE DUMP (.gsa) THAT Qxb6001213aModsProg.lean LOADS. Nothing in Lean hashes anything: it is a label: what it is worth is what the hold of that sum in a sandbox is worth. -/
noncomputable def Trym.pinned : Pinned := { name := "qxb6001213amods", sum := "2bc2f5cc675fa42880dc83ef0c8aa5d80142a95cff10fae405a99ac93ab6cc67", checked := Trym.checked }
namespace Rows
def none {H : Type} : Left H := { results := [], args := [] }

/-- 'zzlaws_root_b1.FnOfOneSourceIsMaximalSameSourceHead': WHATEVER THE INPUT: true; the input reads as it did. -/
def fnOfOneSourceIsMaximalSameSourceHeadSpec : ChangeSpec := { name := "fnOfOneSourceIsMaximalSameSourceHead", fn := fun _ => fun
  | [d1, d2, d3, d4, d5] => { results := [.lit (.bool true)], args := [d1, d2, d3, d4, d5] }
  | _ => none }
def fnOfOneSourceIsMaximalSameSourceHeadRow : OpenClaim := { program := "qxb6001213amods", sum := "2bc2f5cc675fa42880dc83ef0c8aa5d80142a95cff10fae405a99ac93ab6cc67", func := "example.com/antecast/antecast/zzlaws_root_b1.FnOfOneSourceIsMaximalSameSourceHead", spec := "fnOfOneSourceIsMaximalSameSourceHead", make := .lifted ["publicsums"], apart := false }
def FnOfOneSourceIsMaximalSameSourceHeadSaid : Prop := fnOfOneSourceIsMaximalSameSourceHeadRow.holds Trym.pinned (OpenSpec.ofChange fnOfOneSourceIsMaximalSameSourceHeadSpec)

/-- ITS FALSE NEIGHBOUR: 'it returns false'. Refute it at one input. -/
def fnOfOneSourceIsMaximalSameSourceHeadWrong : ChangeSpec := { name := "fnOfOneSourceIsMaximalSameSourceHead", fn := fun _ => fun
  | [d1, d2, d3, d4, d5] => { results := [.lit (.bool false)], args := [d1, d2, d3, d4, d5] }
  | _ => none }
def FnOfOneSourceIsMaximalSameSourceHeadWrongFalsely : Prop := fnOfOneSourceIsMaximalSameSourceHeadRow.holds Trym.pinned (OpenSpec.ofChange fnOfOneSourceIsMaximalSameSourceHeadWrong)

end Rows
end Go.Proofs.Qxb6001213aMods
