/-
  No cell of these rows narrows 'for every input' (looked for: loops, veiled, ifaces, maps, wideKeys, modest, calm, conditions, laid).
  DERIVED. THE GIVEN ROWS OF THIS SEAT. 7 by the template 'for every input the law returns true; each argument reads behind the call as it read before'; 0 by the template 'total and deterministic' (their statements: YbulkauhyTotals.lean).
  GIVEN WITH THE SEED: the statements are not yours to turn. If you find one false, say at which input.
  Laid BY PROGRAM, IN A SANDBOX (cutbox-rows.mjs): the forced cells as the released guide's own fill.sh prints them over the translation f4ec6c715cfeb2f1… (all of the seat's roots in one cut). By AI agents, Wed Nov 11 2026. No macro, syntax, notation, axiom, sorry.
-/
import Derived.Test.YbulkauhyChecked
import GoSem.Claim
import GoSem.ClaimJoined
import GoSem.ClaimMapViews
import Derived.JoinedTies
import Derived.KernelRfl
namespace Go.Proofs.Ybulkauhy
/- THE CELL 'sum', in the pinned program and in every row, IS THE sha256 OF THE DUMP (.gsa) THAT YbulkauhyProg.lean LOADS. Nothing in Lean hashes anything: it is a label: what it is worth is what the hold of that sum in a sandbox is worth. -/
noncomputable def Yba.pinned : Pinned := { name := "ybulkauhy", sum := "f4ec6c715cfeb2f15c3684ccd03dc1245e179c3b145bfc9cc76cda6ff60ddb05", checked := Yba.checked }
namespace Rows
def none {H : Type} : Left H := { results := [], args := [] }

/-- 'creditsim.LawS2286ATable': WHATEVER THE INPUT: true; the input reads as it did. -/
def lawS2286ATableSpec : ChangeSpec := { name := "lawS2286ATable", fn := fun _ => fun
  | [d1, d2, d3, d4, d5, d6, d7, d8, d9, d10] => { results := [.lit (.bool true)], args := [d1, d2, d3, d4, d5, d6, d7, d8, d9, d10] }
  | _ => none }
def lawS2286ATableRow : OpenClaim := { program := "ybulkauhy", sum := "f4ec6c715cfeb2f15c3684ccd03dc1245e179c3b145bfc9cc76cda6ff60ddb05", func := "example.com/tollpath/tollpath/creditsim.LawS2286ATable", spec := "lawS2286ATable", inPlace := ["math.archCeil", "math.archFloor", "math.Float64bits", "math.Float64frombits", "math.archTrunc"], unfollowed := true, recurses := true, apart := false }
def LawS2286ATableSaid : Prop := lawS2286ATableRow.holds Yba.pinned (OpenSpec.ofChange lawS2286ATableSpec)

/-- ITS FALSE NEIGHBOUR: 'it returns false'. Refute it at one input. -/
def lawS2286ATableWrong : ChangeSpec := { name := "lawS2286ATable", fn := fun _ => fun
  | [d1, d2, d3, d4, d5, d6, d7, d8, d9, d10] => { results := [.lit (.bool false)], args := [d1, d2, d3, d4, d5, d6, d7, d8, d9, d10] }
  | _ => none }
def LawS2286ATableWrongFalsely : Prop := lawS2286ATableRow.holds Yba.pinned (OpenSpec.ofChange lawS2286ATableWrong)

/-- 'creditsim.LawS2286AResolved': WHATEVER THE INPUT: true; the input reads as it did. -/
def lawS2286AResolvedSpec : ChangeSpec := { name := "lawS2286AResolved", fn := fun _ => fun
  | [d1, d2, d3, d4, d5, d6, d7, d8, d9, d10] => { results := [.lit (.bool true)], args := [d1, d2, d3, d4, d5, d6, d7, d8, d9, d10] }
  | _ => none }
def lawS2286AResolvedRow : OpenClaim := { program := "ybulkauhy", sum := "f4ec6c715cfeb2f15c3684ccd03dc1245e179c3b145bfc9cc76cda6ff60ddb05", func := "example.com/tollpath/tollpath/creditsim.LawS2286AResolved", spec := "lawS2286AResolved", inPlace := ["math.archCeil", "math.archFloor", "math.Float64bits", "math.Float64frombits", "math.archTrunc"], unfollowed := true, recurses := true, apart := false }
def LawS2286AResolvedSaid : Prop := lawS2286AResolvedRow.holds Yba.pinned (OpenSpec.ofChange lawS2286AResolvedSpec)

/-- ITS FALSE NEIGHBOUR: 'it returns false'. Refute it at one input. -/
def lawS2286AResolvedWrong : ChangeSpec := { name := "lawS2286AResolved", fn := fun _ => fun
  | [d1, d2, d3, d4, d5, d6, d7, d8, d9, d10] => { results := [.lit (.bool false)], args := [d1, d2, d3, d4, d5, d6, d7, d8, d9, d10] }
  | _ => none }
def LawS2286AResolvedWrongFalsely : Prop := lawS2286AResolvedRow.holds Yba.pinned (OpenSpec.ofChange lawS2286AResolvedWrong)

/-- 'agent.LawS2286BExact': WHATEVER THE INPUT: true; the input reads as it did. -/
def lawS2286BExactSpec : ChangeSpec := { name := "lawS2286BExact", fn := fun _ => fun
  | [d1, d2, d3, d4, d5, d6, d7, d8, d9] => { results := [.lit (.bool true)], args := [d1, d2, d3, d4, d5, d6, d7, d8, d9] }
  | _ => none }
def lawS2286BExactRow : OpenClaim := { program := "ybulkauhy", sum := "f4ec6c715cfeb2f15c3684ccd03dc1245e179c3b145bfc9cc76cda6ff60ddb05", func := "example.com/tollpath/tollpath/agent.LawS2286BExact", spec := "lawS2286BExact", apart := false }
def LawS2286BExactSaid : Prop := lawS2286BExactRow.holds Yba.pinned (OpenSpec.ofChange lawS2286BExactSpec)

/-- ITS FALSE NEIGHBOUR: 'it returns false'. Refute it at one input. -/
def lawS2286BExactWrong : ChangeSpec := { name := "lawS2286BExact", fn := fun _ => fun
  | [d1, d2, d3, d4, d5, d6, d7, d8, d9] => { results := [.lit (.bool false)], args := [d1, d2, d3, d4, d5, d6, d7, d8, d9] }
  | _ => none }
def LawS2286BExactWrongFalsely : Prop := lawS2286BExactRow.holds Yba.pinned (OpenSpec.ofChange lawS2286BExactWrong)

/-- 'agent.LawS2286BGrowth': WHATEVER THE INPUT: true; the input reads as it did. -/
def lawS2286BGrowthSpec : ChangeSpec := { name := "lawS2286BGrowth", fn := fun _ => fun
  | [d1, d2, d3] => { results := [.lit (.bool true)], args := [d1, d2, d3] }
  | _ => none }
def lawS2286BGrowthRow : OpenClaim := { program := "ybulkauhy", sum := "f4ec6c715cfeb2f15c3684ccd03dc1245e179c3b145bfc9cc76cda6ff60ddb05", func := "example.com/tollpath/tollpath/agent.LawS2286BGrowth", spec := "lawS2286BGrowth", apart := false }
def LawS2286BGrowthSaid : Prop := lawS2286BGrowthRow.holds Yba.pinned (OpenSpec.ofChange lawS2286BGrowthSpec)

/-- ITS FALSE NEIGHBOUR: 'it returns false'. Refute it at one input. -/
def lawS2286BGrowthWrong : ChangeSpec := { name := "lawS2286BGrowth", fn := fun _ => fun
  | [d1, d2, d3] => { results := [.lit (.bool false)], args := [d1, d2, d3] }
  | _ => none }
def LawS2286BGrowthWrongFalsely : Prop := lawS2286BGrowthRow.holds Yba.pinned (OpenSpec.ofChange lawS2286BGrowthWrong)

/-- 'ocs.LawS2286CFresh': WHATEVER THE INPUT: true; the input reads as it did. -/
def lawS2286CFreshSpec : ChangeSpec := { name := "lawS2286CFresh", fn := fun _ => fun
  | [d1, d2, d3] => { results := [.lit (.bool true)], args := [d1, d2, d3] }
  | _ => none }
def lawS2286CFreshRow : OpenClaim := { program := "ybulkauhy", sum := "f4ec6c715cfeb2f15c3684ccd03dc1245e179c3b145bfc9cc76cda6ff60ddb05", func := "example.com/tollpath/tollpath/ocs.LawS2286CFresh", spec := "lawS2286CFresh", apart := false }
def LawS2286CFreshSaid : Prop := lawS2286CFreshRow.holds Yba.pinned (OpenSpec.ofChange lawS2286CFreshSpec)

/-- ITS FALSE NEIGHBOUR: 'it returns false'. Refute it at one input. -/
def lawS2286CFreshWrong : ChangeSpec := { name := "lawS2286CFresh", fn := fun _ => fun
  | [d1, d2, d3] => { results := [.lit (.bool false)], args := [d1, d2, d3] }
  | _ => none }
def LawS2286CFreshWrongFalsely : Prop := lawS2286CFreshRow.holds Yba.pinned (OpenSpec.ofChange lawS2286CFreshWrong)

/-- 'ocs.LawS2286COpen': WHATEVER THE INPUT: true; the input reads as it did. -/
def lawS2286COpenSpec : ChangeSpec := { name := "lawS2286COpen", fn := fun _ => fun
  | [d1, d2, d3] => { results := [.lit (.bool true)], args := [d1, d2, d3] }
  | _ => none }
def lawS2286COpenRow : OpenClaim := { program := "ybulkauhy", sum := "f4ec6c715cfeb2f15c3684ccd03dc1245e179c3b145bfc9cc76cda6ff60ddb05", func := "example.com/tollpath/tollpath/ocs.LawS2286COpen", spec := "lawS2286COpen", apart := false }
def LawS2286COpenSaid : Prop := lawS2286COpenRow.holds Yba.pinned (OpenSpec.ofChange lawS2286COpenSpec)

/-- ITS FALSE NEIGHBOUR: 'it returns false'. Refute it at one input. -/
def lawS2286COpenWrong : ChangeSpec := { name := "lawS2286COpen", fn := fun _ => fun
  | [d1, d2, d3] => { results := [.lit (.bool false)], args := [d1, d2, d3] }
  | _ => none }
def LawS2286COpenWrongFalsely : Prop := lawS2286COpenRow.holds Yba.pinned (OpenSpec.ofChange lawS2286COpenWrong)

/-- 'ocs.LawS2286CFields': WHATEVER THE INPUT: true; the input reads as it did. -/
def lawS2286CFieldsSpec : ChangeSpec := { name := "lawS2286CFields", fn := fun _ => fun
  | [d] => { results := [.lit (.bool true)], args := [d] }
  | _ => none }
def lawS2286CFieldsRow : OpenClaim := { program := "ybulkauhy", sum := "f4ec6c715cfeb2f15c3684ccd03dc1245e179c3b145bfc9cc76cda6ff60ddb05", func := "example.com/tollpath/tollpath/ocs.LawS2286CFields", spec := "lawS2286CFields", apart := false }
def LawS2286CFieldsSaid : Prop := lawS2286CFieldsRow.holds Yba.pinned (OpenSpec.ofChange lawS2286CFieldsSpec)

/-- ITS FALSE NEIGHBOUR: 'it returns false'. Refute it at one input. -/
def lawS2286CFieldsWrong : ChangeSpec := { name := "lawS2286CFields", fn := fun _ => fun
  | [d] => { results := [.lit (.bool false)], args := [d] }
  | _ => none }
def LawS2286CFieldsWrongFalsely : Prop := lawS2286CFieldsRow.holds Yba.pinned (OpenSpec.ofChange lawS2286CFieldsWrong)

end Rows
end Go.Proofs.Ybulkauhy
