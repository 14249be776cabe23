/-
  NewTrace, bufio.NewWriter.
-/
import Derived.Test.YbulkbldsDoorPass
namespace Go.Proofs.YbulkbldsDoor
open Go.Shelf Go.RowKit


theorem Ybad.info5' : (Ybad.prog.info? 5).map (fun i => (i.zero, i.size, i.bytes)) = some (some (.int .u8 0), 1, 1) := by kernel_rfl
theorem notWriter (p : Option Addr) (w : World) : (Instr.typeAssert (.iface 22 (.pointer p)) 101 102 true).run Ybad.prog w = .ok (.tuple #[.pointer none, .bool false]) w := by
  kernel_rfl

theorem make4096 : ∃ cur : List Value, cur.length = 4096 ∧ ∀ v, (Instr.makeSlice 23 (.int .i64 4096) (.int .i64 4096)).run Ybad.prog v = .ok (.slice (some ⟨v.heap.size, 0, none⟩) 4096 4096) (v.alloc (.cells cur.toArray 5)) := by
  refine ⟨(madeCells #[.int .u8 0] 4096).toList, ?_, fun v => ?_⟩
  · rw [Array.length_toList, size_madeCells]
  · rw [Array.toArray_toList]
    exact run_make_row' (P := Ybad.prog) 23 5 (.int .u8 0) 1 Ybad.underlying23 Ybad.info5' rfl .i64 .i64 4096 (by omega) (by omega) v

set_option maxRecDepth 100000 in
theorem newWriterSize_any (bz : Nat) (w : World) :
    Calls Ybad.prog 24 #[.iface 22 (.pointer (some ⟨bz, 0, none⟩)), .int .i64 4096] w fun e w' => e = .returned (.pointer (some ⟨w.heap.size + 1, 0, none⟩)) ∧
      ∃ cur : List Value, cur.length = 4096 ∧ w' = (w.alloc (.cells cur.toArray 5)).alloc (.cells #[.nilIface, .slice (some ⟨w.heap.size, 0, none⟩) 4096 4096, .int .i64 0, .iface 22 (.pointer (some ⟨bz, 0, none⟩))] 125) := by
  obtain ⟨cur, hlen, hmk⟩ := make4096
  have hta := notWriter (some ⟨bz, 0, none⟩)
  have HL : Hid (cur.length = 4096) := hlen
  clear hlen
  go_enter Ybad.func24, Ybad.ntmps24
  go_wp2
  go_ret
  exact ⟨rfl, cur, HL.out, rfl⟩

set_option maxRecDepth 100000 in
theorem newWriter_any (bz : Nat) (w : World) :
    Calls Ybad.prog 14 #[.iface 22 (.pointer (some ⟨bz, 0, none⟩))] w fun e w' => e = .returned (.pointer (some ⟨w.heap.size + 1, 0, none⟩)) ∧
      ∃ cur : List Value, cur.length = 4096 ∧ w' = (w.alloc (.cells cur.toArray 5)).alloc (.cells #[.nilIface, .slice (some ⟨w.heap.size, 0, none⟩) 4096 4096, .int .i64 0, .iface 22 (.pointer (some ⟨bz, 0, none⟩))] 125) := by
  go_enter Ybad.func14, Ybad.ntmps14
  go_wp2_with (go_at_call 24; refine (newWriterSize_any bz _).mono ?_)
  rintro e w1 ⟨rfl, cur, hl, rfl⟩
  have HL : Hid (cur.length = 4096) := hl
  clear hl
  go_wp2_with fail
  go_ret
  exact ⟨rfl, cur, HL.out, rfl⟩

set_option maxRecDepth 100000 in
theorem newTrace_any (bz : Nat) (w : World) :
    Calls Ybad.prog 7 #[.iface 22 (.pointer (some ⟨bz, 0, none⟩))] w fun e w' => e = .returned (.pointer (some ⟨w.heap.size + 2, 0, none⟩)) ∧
      ∃ cur : List Value, cur.length = 4096 ∧ w' = ((w.alloc (.cells cur.toArray 5)).alloc (.cells #[.nilIface, .slice (some ⟨w.heap.size, 0, none⟩) 4096 4096, .int .i64 0, .iface 22 (.pointer (some ⟨bz, 0, none⟩))] 125)).alloc (.cells #[.pointer (some ⟨w.heap.size + 1, 0, none⟩), .slice none 0 0, .int .i64 0, .nilIface] 107) := by
  go_enter Ybad.func7, Ybad.ntmps7
  go_wp2_with (go_at_call 14; refine (newWriter_any bz _).mono ?_)
  rintro e w1 ⟨rfl, cur, hl, rfl⟩
  have HL : Hid (cur.length = 4096) := hl
  clear hl
  go_wp2_with fail
  go_ret
  exact ⟨rfl, cur, HL.out, rfl⟩
end Go.Proofs.YbulkbldsDoor
