/-
  No cell of these rows narrows 'for every input' (looked for: loops, veiled, ifaces, maps, wideKeys, modest, calm, conditions, laid).
  DERIVED. THE GIVEN ROWS OF THIS SEAT. 3 by the template 'for every input the law returns true; each argument reads behind the call as it read before'; 0 by the template 'total and deterministic' (their statements: YbulkbrpsTotals.lean).
  GIVEN WITH THE SEED: the statements are not yours to turn. If you find one false, say at which input.
  Laid BY PROGRAM, IN A SANDBOX (cutbox-rows.mjs): the forced cells as the released guide's own fill.sh prints them over the translation 61cf1a9ceb94f5e4… (all of the seat's roots in one cut). By AI agents, Wed Nov 11 2026. No macro, syntax, notation, axiom, sorry.
-/
import Derived.Test.YbulkbrpsChecked
import GoSem.Claim
import GoSem.ClaimJoined
import GoSem.ClaimMapViews
import Derived.JoinedTies
import Derived.KernelRfl
namespace Go.Proofs.Ybulkbrps
/- THE CELL 'sum', in the pinned program and in every row, IS THE sha256 OF THE DUMP (.gsa) THAT YbulkbrpsProg.lean LOADS. Nothing in Lean hashes anything: it is a label: what it is worth is what the hold of that sum in a sandbox is worth. -/
noncomputable def Yba.pinned : Pinned := { name := "ybulkbrps", sum := "61cf1a9ceb94f5e4c543fb54846cb4e83368e044872a86a91bceda9501000896", checked := Yba.checked }
namespace Rows
def none {H : Type} : Left H := { results := [], args := [] }

/-- 'elements.LawS3411CLookup': WHATEVER THE INPUT: true; the input reads as it did. -/
def lawS3411CLookupSpec : ChangeSpec := { name := "lawS3411CLookup", fn := fun _ => fun
  | [d1, d2] => { results := [.lit (.bool true)], args := [d1, d2] }
  | _ => none }
def lawS3411CLookupRow : OpenClaim := { program := "ybulkbrps", sum := "61cf1a9ceb94f5e4c543fb54846cb4e83368e044872a86a91bceda9501000896", func := "example.com/droplens/droplens/elements.LawS3411CLookup", spec := "lawS3411CLookup", plainKeys := false, apart := false }
def LawS3411CLookupSaid : Prop := lawS3411CLookupRow.holds Yba.pinned (OpenSpec.ofChange lawS3411CLookupSpec)

/-- ITS FALSE NEIGHBOUR: 'it returns false'. Refute it at one input. -/
def lawS3411CLookupWrong : ChangeSpec := { name := "lawS3411CLookup", fn := fun _ => fun
  | [d1, d2] => { results := [.lit (.bool false)], args := [d1, d2] }
  | _ => none }
def LawS3411CLookupWrongFalsely : Prop := lawS3411CLookupRow.holds Yba.pinned (OpenSpec.ofChange lawS3411CLookupWrong)

/-- 'elements.LawS3411CWhole': WHATEVER THE INPUT: true; the input reads as it did. -/
def lawS3411CWholeSpec : ChangeSpec := { name := "lawS3411CWhole", fn := fun _ => fun
  | [] => { results := [.lit (.bool true)], args := [] }
  | _ => none }
def lawS3411CWholeRow : OpenClaim := { program := "ybulkbrps", sum := "61cf1a9ceb94f5e4c543fb54846cb4e83368e044872a86a91bceda9501000896", func := "example.com/droplens/droplens/elements.LawS3411CWhole", spec := "lawS3411CWhole", plainKeys := false, apart := false }
def LawS3411CWholeSaid : Prop := lawS3411CWholeRow.holds Yba.pinned (OpenSpec.ofChange lawS3411CWholeSpec)

/-- ITS FALSE NEIGHBOUR: 'it returns false'. Refute it at one input. -/
def lawS3411CWholeWrong : ChangeSpec := { name := "lawS3411CWhole", fn := fun _ => fun
  | [] => { results := [.lit (.bool false)], args := [] }
  | _ => none }
def LawS3411CWholeWrongFalsely : Prop := lawS3411CWholeRow.holds Yba.pinned (OpenSpec.ofChange lawS3411CWholeWrong)

/-- 'elements.LawS3411CFresh': WHATEVER THE INPUT: true; the input reads as it did. -/
def lawS3411CFreshSpec : ChangeSpec := { name := "lawS3411CFresh", fn := fun _ => fun
  | [d1, d2, d3] => { results := [.lit (.bool true)], args := [d1, d2, d3] }
  | _ => none }
def lawS3411CFreshRow : OpenClaim := { program := "ybulkbrps", sum := "61cf1a9ceb94f5e4c543fb54846cb4e83368e044872a86a91bceda9501000896", func := "example.com/droplens/droplens/elements.LawS3411CFresh", spec := "lawS3411CFresh", plainKeys := false, apart := false }
def LawS3411CFreshSaid : Prop := lawS3411CFreshRow.holds Yba.pinned (OpenSpec.ofChange lawS3411CFreshSpec)

/-- ITS FALSE NEIGHBOUR: 'it returns false'. Refute it at one input. -/
def lawS3411CFreshWrong : ChangeSpec := { name := "lawS3411CFresh", fn := fun _ => fun
  | [d1, d2, d3] => { results := [.lit (.bool false)], args := [d1, d2, d3] }
  | _ => none }
def LawS3411CFreshWrongFalsely : Prop := lawS3411CFreshRow.holds Yba.pinned (OpenSpec.ofChange lawS3411CFreshWrong)

end Rows
end Go.Proofs.Ybulkbrps
