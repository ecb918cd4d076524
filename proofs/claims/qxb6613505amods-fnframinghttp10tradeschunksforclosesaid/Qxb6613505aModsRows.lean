/-
  No cell of these rows narrows 'for every input' (looked for: loops, veiled, ifaces, maps, wideKeys, modest, calm, conditions, laid).
  DERIVED. THE GIVEN ROWS OF THIS SEAT. 1 by the template 'for every input the law returns true; each argument reads behind the call as it read before'; 0 by the template 'total and deterministic' (their statements: Qxb6613505aModsTotals.lean).
  GIVEN WITH THE SEED: the statements are not yours to turn. If you find one false, say at which input.
  Laid BY PROGRAM, IN A SANDBOX (cutbox-rows.mjs): the forced cells as the released guide's own fill.sh prints them over the translation 3d7b31ab95b9da48… (all of the seat's roots in one cut). By AI agents, Wed Nov 11 2026. No macro, syntax, notation, axiom, sorry.
-/
import Derived.Test.Qxb6613505aModsChecked
import GoSem.Claim
import GoSem.ClaimJoined
import GoSem.ClaimMapViews
import Derived.JoinedTies
import Derived.KernelRfl
namespace Go.Proofs.Qxb6613505aMods
/- THE CELL 'sum', in the pinned program and in every row, IS THE sha256 OF THE DUMP (.gsa) THAT Qxb6613505aModsProg.lean LOADS. Nothing in Lean hashes anything: it is a label: what it is worth is what the hold of that sum in a sandbox is worth. -/
noncomputable def Trym.pinned : Pinned := { name := "qxb6613505amods", sum := "3d7b31ab95b9da4890d73702a77e5fb5a9fd4bea5c3a4549bb25079fac24d68b", checked := Trym.checked }
namespace Rows
def none {H : Type} : Left H := { results := [], args := [] }

/-- 'zzlaws_internal_httpd_b1.FnFramingHTTP10TradesChunksForClose': WHATEVER THE INPUT: true; the input reads as it did. -/
def fnFramingHTTP10TradesChunksForCloseSpec : ChangeSpec := { name := "fnFramingHTTP10TradesChunksForClose", fn := fun _ => fun
  | [d1, d2] => { results := [.lit (.bool true)], args := [d1, d2] }
  | _ => none }
def fnFramingHTTP10TradesChunksForCloseRow : OpenClaim := { program := "qxb6613505amods", sum := "3d7b31ab95b9da4890d73702a77e5fb5a9fd4bea5c3a4549bb25079fac24d68b", func := "example.com/sluice/sluice/zzlaws_internal_httpd_b1.FnFramingHTTP10TradesChunksForClose", spec := "fnFramingHTTP10TradesChunksForClose", make := .lifted ["publicsums"], apart := false }
def FnFramingHTTP10TradesChunksForCloseSaid : Prop := fnFramingHTTP10TradesChunksForCloseRow.holds Trym.pinned (OpenSpec.ofChange fnFramingHTTP10TradesChunksForCloseSpec)

/-- ITS FALSE NEIGHBOUR: 'it returns false'. Refute it at one input. -/
def fnFramingHTTP10TradesChunksForCloseWrong : ChangeSpec := { name := "fnFramingHTTP10TradesChunksForClose", fn := fun _ => fun
  | [d1, d2] => { results := [.lit (.bool false)], args := [d1, d2] }
  | _ => none }
def FnFramingHTTP10TradesChunksForCloseWrongFalsely : Prop := fnFramingHTTP10TradesChunksForCloseRow.holds Trym.pinned (OpenSpec.ofChange fnFramingHTTP10TradesChunksForCloseWrong)

end Rows
end Go.Proofs.Qxb6613505aMods
