/-
  No cell of these rows narrows 'for every input' (looked for: loops, veiled, ifaces, maps, wideKeys, modest, calm, conditions, laid).
  DERIVED. THE GIVEN ROWS OF THIS SEAT. 3 by the template 'for every input the law returns true; each argument reads behind the call as it read before'; 0 by the template 'total and deterministic' (their statements: YbulkbldeTotals.lean).
  GIVEN WITH THE SEED: the statements are not yours to turn. If you find one false, say at which input.
  Laid BY PROGRAM, IN A SANDBOX (cutbox-rows.mjs): the forced cells as the released guide's own fill.sh prints them over the translation b3aef634b8e0aa18… (all of the seat's roots in one cut). By AI agents, Wed Nov 11 2026. No macro, syntax, notation, axiom, sorry.
-/
import Derived.Test.YbulkbldeChecked
import GoSem.Claim
import GoSem.ClaimJoined
import GoSem.ClaimMapViews
import Derived.JoinedTies
import Derived.KernelRfl
namespace Go.Proofs.Ybulkblde
/- THE CELL 'sum', in the pinned program and in every row, IS THE sha256 OF THE DUMP (.gsa) THAT YbulkbldeProg.lean LOADS. Nothing in Lean hashes anything: it is a label: what it is worth is what the hold of that sum in a sandbox is worth. -/
noncomputable def Yba.pinned : Pinned := { name := "ybulkblde", sum := "b3aef634b8e0aa18fd30548179d195f79e8f8e1062a596dcc452d6a71fcce586", checked := Yba.checked }
namespace Rows
def none {H : Type} : Left H := { results := [], args := [] }

/-- 'serialscope.LawS3098APlant': WHATEVER THE INPUT: true; the input reads as it did. -/
def lawS3098APlantSpec : ChangeSpec := { name := "lawS3098APlant", fn := fun _ => fun
  | [d1, d2, d3, d4] => { results := [.lit (.bool true)], args := [d1, d2, d3, d4] }
  | _ => none }
def lawS3098APlantRow : OpenClaim := { program := "ybulkblde", sum := "b3aef634b8e0aa18fd30548179d195f79e8f8e1062a596dcc452d6a71fcce586", func := "example.com/serialscope/serialscope.LawS3098APlant", spec := "lawS3098APlant", inPlace := ["math/bits.Add64"], unfollowed := true, recurses := true, apart := false }
def LawS3098APlantSaid : Prop := lawS3098APlantRow.holds Yba.pinned (OpenSpec.ofChange lawS3098APlantSpec)

/-- ITS FALSE NEIGHBOUR: 'it returns false'. Refute it at one input. -/
def lawS3098APlantWrong : ChangeSpec := { name := "lawS3098APlant", fn := fun _ => fun
  | [d1, d2, d3, d4] => { results := [.lit (.bool false)], args := [d1, d2, d3, d4] }
  | _ => none }
def LawS3098APlantWrongFalsely : Prop := lawS3098APlantRow.holds Yba.pinned (OpenSpec.ofChange lawS3098APlantWrong)

/-- 'view.LawS3098BTopo': WHATEVER THE INPUT: true; the input reads as it did. -/
def lawS3098BTopoSpec : ChangeSpec := { name := "lawS3098BTopo", fn := fun _ => fun
  | [d1, d2, d3] => { results := [.lit (.bool true)], args := [d1, d2, d3] }
  | _ => none }
def lawS3098BTopoRow : OpenClaim := { program := "ybulkblde", sum := "b3aef634b8e0aa18fd30548179d195f79e8f8e1062a596dcc452d6a71fcce586", func := "example.com/serialscope/serialscope/internal/view.LawS3098BTopo", spec := "lawS3098BTopo", unfollowed := true, recurses := true, apart := false }
def LawS3098BTopoSaid : Prop := lawS3098BTopoRow.holds Yba.pinned (OpenSpec.ofChange lawS3098BTopoSpec)

/-- ITS FALSE NEIGHBOUR: 'it returns false'. Refute it at one input. -/
def lawS3098BTopoWrong : ChangeSpec := { name := "lawS3098BTopo", fn := fun _ => fun
  | [d1, d2, d3] => { results := [.lit (.bool false)], args := [d1, d2, d3] }
  | _ => none }
def LawS3098BTopoWrongFalsely : Prop := lawS3098BTopoRow.holds Yba.pinned (OpenSpec.ofChange lawS3098BTopoWrong)

/-- 'view.LawS3098BSerial': WHATEVER THE INPUT: true; the input reads as it did. -/
def lawS3098BSerialSpec : ChangeSpec := { name := "lawS3098BSerial", fn := fun _ => fun
  | [d1, d2] => { results := [.lit (.bool true)], args := [d1, d2] }
  | _ => none }
def lawS3098BSerialRow : OpenClaim := { program := "ybulkblde", sum := "b3aef634b8e0aa18fd30548179d195f79e8f8e1062a596dcc452d6a71fcce586", func := "example.com/serialscope/serialscope/internal/view.LawS3098BSerial", spec := "lawS3098BSerial", unfollowed := true, recurses := true, apart := false }
def LawS3098BSerialSaid : Prop := lawS3098BSerialRow.holds Yba.pinned (OpenSpec.ofChange lawS3098BSerialSpec)

/-- ITS FALSE NEIGHBOUR: 'it returns false'. Refute it at one input. -/
def lawS3098BSerialWrong : ChangeSpec := { name := "lawS3098BSerial", fn := fun _ => fun
  | [d1, d2] => { results := [.lit (.bool false)], args := [d1, d2] }
  | _ => none }
def LawS3098BSerialWrongFalsely : Prop := lawS3098BSerialRow.holds Yba.pinned (OpenSpec.ofChange lawS3098BSerialWrong)

end Rows
end Go.Proofs.Ybulkblde
