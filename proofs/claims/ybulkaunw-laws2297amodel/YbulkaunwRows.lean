/-
  No cell of these rows narrows 'for every input' (looked for: loops, veiled, ifaces, maps, wideKeys, modest, calm, conditions, laid).
  DERIVED. THE GIVEN ROWS OF THIS SEAT. 2 by the template 'for every input the law returns true; each argument reads behind the call as it read before'; 0 by the template 'total and deterministic' (their statements: YbulkaunwTotals.lean).
  GIVEN WITH THE SEED: the statements are not yours to turn. If you find one false, say at which input.
  Laid BY PROGRAM, IN A SANDBOX (cutbox-rows.mjs): the forced cells as the released guide's own fill.sh prints them over the translation 71c64eafd1e5aa18… (all of the seat's roots in one cut). By AI agents, Wed Nov 11 2026. No macro, syntax, notation, axiom, sorry.
-/
import Derived.Test.YbulkaunwChecked
import GoSem.Claim
import GoSem.ClaimJoined
import GoSem.ClaimMapViews
import Derived.JoinedTies
import Derived.KernelRfl
namespace Go.Proofs.Ybulkaunw
/- THE CELL 'sum', in the pinned program and in every row, IS THE sha256 OF THE DUMP (.gsa) THAT YbulkaunwProg.lean LOADS. Nothing in Lean hashes anything: it is a label: what it is worth is what the hold of that sum in a sandbox is worth. -/
noncomputable def Yba.pinned : Pinned := { name := "ybulkaunw", sum := "71c64eafd1e5aa186c52ae3d6af8986db91186d33367ce1c4258634923b7e741", checked := Yba.checked }
namespace Rows
def none {H : Type} : Left H := { results := [], args := [] }

/-- 'countersign.LawS2297AModel': WHATEVER THE INPUT: true; the input reads as it did. -/
def lawS2297AModelSpec : ChangeSpec := { name := "lawS2297AModel", fn := fun _ => fun
  | [d1, d2] => { results := [.lit (.bool true)], args := [d1, d2] }
  | _ => none }
def lawS2297AModelRow : OpenClaim := { program := "ybulkaunw", sum := "71c64eafd1e5aa186c52ae3d6af8986db91186d33367ce1c4258634923b7e741", func := "example.com/countersign/countersign.LawS2297AModel", spec := "lawS2297AModel", unfollowed := true, recurses := true, apart := false }
def LawS2297AModelSaid : Prop := lawS2297AModelRow.holds Yba.pinned (OpenSpec.ofChange lawS2297AModelSpec)

/-- ITS FALSE NEIGHBOUR: 'it returns false'. Refute it at one input. -/
def lawS2297AModelWrong : ChangeSpec := { name := "lawS2297AModel", fn := fun _ => fun
  | [d1, d2] => { results := [.lit (.bool false)], args := [d1, d2] }
  | _ => none }
def LawS2297AModelWrongFalsely : Prop := lawS2297AModelRow.holds Yba.pinned (OpenSpec.ofChange lawS2297AModelWrong)

/-- 'countersign.LawS2297AStrings': WHATEVER THE INPUT: true; the input reads as it did. -/
def lawS2297AStringsSpec : ChangeSpec := { name := "lawS2297AStrings", fn := fun _ => fun
  | [d1, d2] => { results := [.lit (.bool true)], args := [d1, d2] }
  | _ => none }
def lawS2297AStringsRow : OpenClaim := { program := "ybulkaunw", sum := "71c64eafd1e5aa186c52ae3d6af8986db91186d33367ce1c4258634923b7e741", func := "example.com/countersign/countersign.LawS2297AStrings", spec := "lawS2297AStrings", unfollowed := true, recurses := true, apart := false }
def LawS2297AStringsSaid : Prop := lawS2297AStringsRow.holds Yba.pinned (OpenSpec.ofChange lawS2297AStringsSpec)

/-- ITS FALSE NEIGHBOUR: 'it returns false'. Refute it at one input. -/
def lawS2297AStringsWrong : ChangeSpec := { name := "lawS2297AStrings", fn := fun _ => fun
  | [d1, d2] => { results := [.lit (.bool false)], args := [d1, d2] }
  | _ => none }
def LawS2297AStringsWrongFalsely : Prop := lawS2297AStringsRow.holds Yba.pinned (OpenSpec.ofChange lawS2297AStringsWrong)

end Rows
end Go.Proofs.Ybulkaunw
