/-
  No cell of these rows narrows 'for every input' (looked for: loops, veiled, ifaces, maps, wideKeys, modest, calm, conditions, laid).
  DERIVED. THE GIVEN ROWS OF THIS SEAT. 1 by the template 'for every input the law returns true; each argument reads behind the call as it read before'; 0 by the template 'total and deterministic' (their statements: YbulkblioTotals.lean).
  GIVEN WITH THE SEED: the statements are not yours to turn. If you find one false, say at which input.
  Laid BY PROGRAM, IN A SANDBOX (cutbox-rows.mjs): the forced cells as the released guide's own fill.sh prints them over the translation d57fa4a8ac460ac4… (all of the seat's roots in one cut). By AI agents, Wed Nov 11 2026. No macro, syntax, notation, axiom, sorry.
-/
import Derived.Test.YbulkblioChecked
import GoSem.Claim
import GoSem.ClaimJoined
import GoSem.ClaimMapViews
import Derived.JoinedTies
import Derived.KernelRfl
namespace Go.Proofs.Ybulkblio
/- THE CELL 'sum', in the pinned program and in every row, IS THE sha256 OF THE DUMP (.gsa) THAT YbulkblioProg.lean LOADS. Nothing in Lean hashes anything: it is a label: what it is worth is what the hold of that sum in a sandbox is worth. -/
noncomputable def Yba.pinned : Pinned := { name := "ybulkblio", sum := "d57fa4a8ac460ac4d308352658d40ddac893cc31f3994b7166dd97352473065f", checked := Yba.checked }
namespace Rows
def none {H : Type} : Left H := { results := [], args := [] }

/-- 'dictlock.LawS3108BFilter': WHATEVER THE INPUT: true; the input reads as it did. -/
def lawS3108BFilterSpec : ChangeSpec := { name := "lawS3108BFilter", fn := fun _ => fun
  | [d1, d2, d3] => { results := [.lit (.bool true)], args := [d1, d2, d3] }
  | _ => none }
def lawS3108BFilterRow : OpenClaim := { program := "ybulkblio", sum := "d57fa4a8ac460ac4d308352658d40ddac893cc31f3994b7166dd97352473065f", func := "example.com/dictlock/dictlock.LawS3108BFilter", spec := "lawS3108BFilter", unfollowed := true, recurses := true, apart := false }
def LawS3108BFilterSaid : Prop := lawS3108BFilterRow.holds Yba.pinned (OpenSpec.ofChange lawS3108BFilterSpec)

/-- ITS FALSE NEIGHBOUR: 'it returns false'. Refute it at one input. -/
def lawS3108BFilterWrong : ChangeSpec := { name := "lawS3108BFilter", fn := fun _ => fun
  | [d1, d2, d3] => { results := [.lit (.bool false)], args := [d1, d2, d3] }
  | _ => none }
def LawS3108BFilterWrongFalsely : Prop := lawS3108BFilterRow.holds Yba.pinned (OpenSpec.ofChange lawS3108BFilterWrong)

end Rows
end Go.Proofs.Ybulkblio
