/-
  No cell of these rows narrows 'for every input' (looked for: loops, veiled, ifaces, maps, wideKeys, modest, calm, conditions, laid).
  DERIVED. THE GIVEN ROWS OF THIS SEAT. 1 by the template 'for every input the law returns true; each argument reads behind the call as it read before'; 0 by the template 'total and deterministic' (their statements: YbulkbrjgRTotals.lean).
  GIVEN WITH THE SEED: the statements are not yours to turn. If you find one false, say at which input.
  Laid BY PROGRAM, IN A SANDBOX (cutbox-rows.mjs): the forced cells as the released guide's own fill.sh prints them over the translation b4ad84374b5e6ab5… (all of the seat's roots in one cut). By AI agents, Wed Nov 11 2026. No macro, syntax, notation, axiom, sorry.
-/
import Derived.Test.YbulkbrjgRChecked
import GoSem.Claim
import GoSem.ClaimJoined
import GoSem.ClaimMapViews
import Derived.JoinedTies
import Derived.KernelRfl
namespace Go.Proofs.YbulkbrjgR
/- THE CELL 'sum', in the pinned program and in every row, IS THE sha256 OF THE DUMP (.gsa) THAT YbulkbrjgRProg.lean LOADS. Nothing in Lean hashes anything: it is a label: what it is worth is what the hold of that sum in a sandbox is worth. -/
noncomputable def Yba.pinned : Pinned := { name := "ybulkbrjgr", sum := "b4ad84374b5e6ab575eebb4dbfb55335bf656b7fe24aca9842a9730e9ade4a1c", checked := Yba.checked }
namespace Rows
def none {H : Type} : Left H := { results := [], args := [] }

/-- 'ledger.LawS3399AModel': WHATEVER THE INPUT: true; the input reads as it did. -/
def lawS3399AModelSpec : ChangeSpec := { name := "lawS3399AModel", fn := fun _ => fun
  | [d1, d2, d3] => { results := [.lit (.bool true)], args := [d1, d2, d3] }
  | _ => none }
def lawS3399AModelRow : OpenClaim := { program := "ybulkbrjgr", sum := "b4ad84374b5e6ab575eebb4dbfb55335bf656b7fe24aca9842a9730e9ade4a1c", func := "example.com/tailward/tailward/ledger.LawS3399AModel", spec := "lawS3399AModel", unfollowed := true, recurses := true, named := ["encoding/binary.LittleEndian"], apart := false }
def LawS3399AModelSaid : Prop := lawS3399AModelRow.holds Yba.pinned (OpenSpec.ofChange lawS3399AModelSpec)

/-- ITS FALSE NEIGHBOUR: 'it returns false'. Refute it at one input. -/
def lawS3399AModelWrong : ChangeSpec := { name := "lawS3399AModel", fn := fun _ => fun
  | [d1, d2, d3] => { results := [.lit (.bool false)], args := [d1, d2, d3] }
  | _ => none }
def LawS3399AModelWrongFalsely : Prop := lawS3399AModelRow.holds Yba.pinned (OpenSpec.ofChange lawS3399AModelWrong)

end Rows
end Go.Proofs.YbulkbrjgR
