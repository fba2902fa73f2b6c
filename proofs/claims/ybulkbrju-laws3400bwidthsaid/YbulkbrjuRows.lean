/-
  No cell of these rows narrows 'for every input' (looked for: loops, veiled, ifaces, maps, wideKeys, modest, calm, conditions, laid).
  DERIVED. THE GIVEN ROWS OF THIS SEAT. 5 by the template 'for every input the law returns true; each argument reads behind the call as it read before'; 0 by the template 'total and deterministic' (their statements: YbulkbrjuTotals.lean).
  GIVEN WITH THE SEED: the statements are not yours to turn. If you find one false, say at which input.
  Laid BY PROGRAM, IN A SANDBOX (cutbox-rows.mjs): the forced cells as the released guide's own fill.sh prints them over the translation 87d14ca84de68cf9… (all of the seat's roots in one cut). By AI agents, Wed Nov 11 2026. No macro, syntax, notation, axiom, sorry.
-/
import Derived.Test.YbulkbrjuChecked
import GoSem.Claim
import GoSem.ClaimJoined
import GoSem.ClaimMapViews
import Derived.JoinedTies
import Derived.KernelRfl
namespace Go.Proofs.Ybulkbrju
/- THE CELL 'sum', in the pinned program and in every row, IS THE sha256 OF THE DUMP (.gsa) THAT YbulkbrjuProg.lean LOADS. Nothing in Lean hashes anything: it is a label: what it is worth is what the hold of that sum in a sandbox is worth. -/
noncomputable def Yba.pinned : Pinned := { name := "ybulkbrju", sum := "87d14ca84de68cf92f20da6ca13a837e7e2d64a744565e691ccdc7b65db118bc", checked := Yba.checked }
namespace Rows
def none {H : Type} : Left H := { results := [], args := [] }

/-- 'interlace.LawS3400AModel': WHATEVER THE INPUT: true; the input reads as it did. -/
def lawS3400AModelSpec : ChangeSpec := { name := "lawS3400AModel", fn := fun _ => fun
  | [d] => { results := [.lit (.bool true)], args := [d] }
  | _ => none }
def lawS3400AModelRow : OpenClaim := { program := "ybulkbrju", sum := "87d14ca84de68cf92f20da6ca13a837e7e2d64a744565e691ccdc7b65db118bc", func := "example.com/interlace/interlace.LawS3400AModel", spec := "lawS3400AModel", unfollowed := true, recurses := true, apart := false }
def LawS3400AModelSaid : Prop := lawS3400AModelRow.holds Yba.pinned (OpenSpec.ofChange lawS3400AModelSpec)

/-- ITS FALSE NEIGHBOUR: 'it returns false'. Refute it at one input. -/
def lawS3400AModelWrong : ChangeSpec := { name := "lawS3400AModel", fn := fun _ => fun
  | [d] => { results := [.lit (.bool false)], args := [d] }
  | _ => none }
def LawS3400AModelWrongFalsely : Prop := lawS3400AModelRow.holds Yba.pinned (OpenSpec.ofChange lawS3400AModelWrong)

/-- 'interlace.LawS3400AShare': WHATEVER THE INPUT: true; the input reads as it did. -/
def lawS3400AShareSpec : ChangeSpec := { name := "lawS3400AShare", fn := fun _ => fun
  | [d] => { results := [.lit (.bool true)], args := [d] }
  | _ => none }
def lawS3400AShareRow : OpenClaim := { program := "ybulkbrju", sum := "87d14ca84de68cf92f20da6ca13a837e7e2d64a744565e691ccdc7b65db118bc", func := "example.com/interlace/interlace.LawS3400AShare", spec := "lawS3400AShare", unfollowed := true, recurses := true, apart := false }
def LawS3400AShareSaid : Prop := lawS3400AShareRow.holds Yba.pinned (OpenSpec.ofChange lawS3400AShareSpec)

/-- ITS FALSE NEIGHBOUR: 'it returns false'. Refute it at one input. -/
def lawS3400AShareWrong : ChangeSpec := { name := "lawS3400AShare", fn := fun _ => fun
  | [d] => { results := [.lit (.bool false)], args := [d] }
  | _ => none }
def LawS3400AShareWrongFalsely : Prop := lawS3400AShareRow.holds Yba.pinned (OpenSpec.ofChange lawS3400AShareWrong)

/-- 'interlace.LawS3400BWidth': WHATEVER THE INPUT: true; the input reads as it did. -/
def lawS3400BWidthSpec : ChangeSpec := { name := "lawS3400BWidth", fn := fun _ => fun
  | [d1, d2, d3] => { results := [.lit (.bool true)], args := [d1, d2, d3] }
  | _ => none }
def lawS3400BWidthRow : OpenClaim := { program := "ybulkbrju", sum := "87d14ca84de68cf92f20da6ca13a837e7e2d64a744565e691ccdc7b65db118bc", func := "example.com/interlace/interlace.LawS3400BWidth", spec := "lawS3400BWidth", apart := false }
def LawS3400BWidthSaid : Prop := lawS3400BWidthRow.holds Yba.pinned (OpenSpec.ofChange lawS3400BWidthSpec)

/-- ITS FALSE NEIGHBOUR: 'it returns false'. Refute it at one input. -/
def lawS3400BWidthWrong : ChangeSpec := { name := "lawS3400BWidth", fn := fun _ => fun
  | [d1, d2, d3] => { results := [.lit (.bool false)], args := [d1, d2, d3] }
  | _ => none }
def LawS3400BWidthWrongFalsely : Prop := lawS3400BWidthRow.holds Yba.pinned (OpenSpec.ofChange lawS3400BWidthWrong)

/-- 'interlace.LawS3400BBoundary': WHATEVER THE INPUT: true; the input reads as it did. -/
def lawS3400BBoundarySpec : ChangeSpec := { name := "lawS3400BBoundary", fn := fun _ => fun
  | [d1, d2, d3, d4] => { results := [.lit (.bool true)], args := [d1, d2, d3, d4] }
  | _ => none }
def lawS3400BBoundaryRow : OpenClaim := { program := "ybulkbrju", sum := "87d14ca84de68cf92f20da6ca13a837e7e2d64a744565e691ccdc7b65db118bc", func := "example.com/interlace/interlace.LawS3400BBoundary", spec := "lawS3400BBoundary", apart := false }
def LawS3400BBoundarySaid : Prop := lawS3400BBoundaryRow.holds Yba.pinned (OpenSpec.ofChange lawS3400BBoundarySpec)

/-- ITS FALSE NEIGHBOUR: 'it returns false'. Refute it at one input. -/
def lawS3400BBoundaryWrong : ChangeSpec := { name := "lawS3400BBoundary", fn := fun _ => fun
  | [d1, d2, d3, d4] => { results := [.lit (.bool false)], args := [d1, d2, d3, d4] }
  | _ => none }
def LawS3400BBoundaryWrongFalsely : Prop := lawS3400BBoundaryRow.holds Yba.pinned (OpenSpec.ofChange lawS3400BBoundaryWrong)

/-- 'interlace.LawS3400CInverse': WHATEVER THE INPUT: true; the input reads as it did. -/
def lawS3400CInverseSpec : ChangeSpec := { name := "lawS3400CInverse", fn := fun _ => fun
  | [d] => { results := [.lit (.bool true)], args := [d] }
  | _ => none }
def lawS3400CInverseRow : OpenClaim := { program := "ybulkbrju", sum := "87d14ca84de68cf92f20da6ca13a837e7e2d64a744565e691ccdc7b65db118bc", func := "example.com/interlace/interlace.LawS3400CInverse", spec := "lawS3400CInverse", apart := false }
def LawS3400CInverseSaid : Prop := lawS3400CInverseRow.holds Yba.pinned (OpenSpec.ofChange lawS3400CInverseSpec)

/-- ITS FALSE NEIGHBOUR: 'it returns false'. Refute it at one input. -/
def lawS3400CInverseWrong : ChangeSpec := { name := "lawS3400CInverse", fn := fun _ => fun
  | [d] => { results := [.lit (.bool false)], args := [d] }
  | _ => none }
def LawS3400CInverseWrongFalsely : Prop := lawS3400CInverseRow.holds Yba.pinned (OpenSpec.ofChange lawS3400CInverseWrong)

end Rows
end Go.Proofs.Ybulkbrju
