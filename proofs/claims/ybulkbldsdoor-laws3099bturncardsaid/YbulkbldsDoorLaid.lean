/-
  The listed variables: a world that holds them; the table that AppendInt reads.
-/
import Derived.Test.YbulkbldsDoorRows
import Derived.Test.YbulkbldsDoorApp
import Derived.ChangeSame
import Derived.ChangeVars
import Derived.JoinedOf
import Derived.RowKit
import Derived.RowKitTokens
import Derived.LaidLaws
import Derived.LaidHandle
import Derived.Stop.Joined
import Derived.Lib.LaidTab
import Derived.OpenShut
import Derived.ProofKit
import Derived.ChangeOld
import Derived.Below
namespace Go.Proofs.YbulkbldsDoor
open Go.ChangeShapes Go.WideShapes Go.ChangeAt Go.RowKit

theorem own : ownKnob Ybad.prog.godebug = none := by kernel_rfl
theorem laidOut : laidOutB Ybad.prog = true := by kernel_rfl
theorem gTab : Ybad.prog.globalNamed nPow = some 1 := by kernel_rfl
theorem gTabType : (Ybad.prog.globals[1]?).map (·.type) = some 143 := by kernel_rfl
theorem cells126 : Ybad.prog.cellsOf 126 = 1 := by kernel_rfl
theorem cells143 : Ybad.prog.cellsOf 143 = 20 := by kernel_rfl

/-- The variables that the rows list. -/
def laidVars : List (String × DataW Unit) := Rows.lawS3099AFailRow.laid

def lits {H : Type} : DataW H → Array Value
  | .agg l => (l.map fun | .lit (.int k z) => Value.int k z | _ => undef).toArray
  | _ => #[]

def lowOf (P : Program) : Nat := (World.holding P default ⟨#[], #[], []⟩).heap.size
def shortS : ByteArray := ⟨#[115, 104, 111, 114, 116, 32, 119, 114, 105, 116, 101]⟩
/-- The settled world, the four listed variables holding what their initialisers lay: the witness. -/
def laidWorldOf (P : Program) (os : Os) : World :=
  let w0 := World.holding P os ⟨#[.cells #[.string shortS] 113], #[], []⟩
  { w0 with heap := (((w0.heap.modify 0 fun
      | .cells _ t frozen => .cells #[.iface 111 (.pointer (some ⟨lowOf P, 0, none⟩))] t frozen
      | o => o).modify 1 fun
      | .cells _ t frozen => .cells (lits (H := Unit) Rows.laid_internal_strconv_uint64pow10) t frozen
      | o => o).modify 2 fun
      | .cells _ t frozen => .cells (lits (H := Unit) Rows.laid_math_bits_deBruijn32tab) t frozen
      | o => o).modify 3 fun
      | .cells _ t frozen => .cells (lits (H := Unit) Rows.laid_math_bits_deBruijn64tab) t frozen
      | o => o }

theorem laid_met (os : Os) (args : Array Value) : laidMet Ybad.prog laidVars ((laidWorldOf Ybad.prog os).forCall (fun _ _ => 0) ⟨#[], args, []⟩).memory :=
  laidMet_of_run' 8 (by kernel_rfl) (by kernel_rfl)

theorem laidH_met (os : Os) (args : Array Value) : laidMetH Ybad.prog laidVars ((laidWorldOf Ybad.prog os).forCall (fun _ _ => 0) ⟨#[], args, []⟩).memory :=
  laidMetH_of_parts (laid_met os args) (by kernel_rfl)

/-- The table that strconv.AppendInt reads, off the listed variables. -/
theorem tab_of_laid {W : World} (h0 : laidMetH Ybad.prog laidVars W) : Lib.TabIs Ybad.prog W nPow .u64 Lib.pow10Tab := by
  have h : laidMet Ybad.prog laidVars W := h0
  obtain ⟨ps, ⟨_, _, _, _, _, q1, _, _, _, _, ⟨_, _, _, _, _, q2, _, _, _, _, ⟨g', t', cs, fuel, p, q, hg', ht', hvar, hd, _, _⟩, _⟩, _⟩, _⟩ := h
  obtain rfl := Option.some.inj (gTab.symm.trans hg')
  obtain rfl := Option.some.inj (gTabType.symm.trans ht')
  have hvar' : World.var? Ybad.prog W nPow = some cs := hvar
  unfold Lib.TabIs
  rw [hvar', ← Lib.cells_of_tab (zs := Lib.pow10Tab) Ybad.underlying143 Ybad.underlying126 cells126 cells143 hd]

end Go.Proofs.YbulkbldsDoor
