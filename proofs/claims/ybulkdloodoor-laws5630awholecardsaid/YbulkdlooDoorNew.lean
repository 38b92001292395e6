/-
  NewLineReader over a source.
-/
import Derived.Test.YbulkdlooDoorFns
namespace Go.Proofs.YbulkdlooDoor.A
open Go Go.RowKit Go.Deep Go.Proofs.YbulkdlooDoor.Lib

theorem info5 : (Ybad.prog.info? 5).map (fun i => (i.zero, i.size, i.bytes)) = some (some (.int .u8 0), 1, 1) := by kernel_rfl

theorem assert_no (a : Addr) (w : World) : (Instr.typeAssert (.iface 23 (.pointer (some a))) 38 28 true).run Ybad.prog w = .ok (.tuple #[.pointer none, .bool false]) w := by kernel_rfl

theorem newSize_any (sb : Nat) (w : World) :
    Calls Ybad.prog 10 #[.iface 23 (.pointer (some ⟨sb, 0, none⟩)), .int .i64 4096] w fun e w' => e = .returned (.pointer (some ⟨w.heap.size, 0, none⟩)) ∧
      w' = (w.alloc (.cells #[.slice (some ⟨w.heap.size + 1, 0, none⟩) 4096 4096, .iface 23 (.pointer (some ⟨sb, 0, none⟩)), .int .i64 0, .int .i64 0, .nilIface, .int .i64 (-1), .int .i64 (-1)] 45)).alloc (.cells (madeCells #[.int .u8 0] 4096) 5) := by
  have hmk := run_make_row' (P := Ybad.prog) 22 5 (.int .u8 0) 1 Ybad.underlying22 info5 rfl .i64 .i64 4096 (by omega) (by omega)
  have hmk' : ∀ w : World, (Instr.makeSlice 22 (.int .i64 4096) (.int .i64 4096)).run Ybad.prog w = .ok (.slice (some ⟨w.heap.size, 0, none⟩) 4096 4096) (w.alloc (.cells (madeCells #[.int .u8 0] 4096) 5)) := hmk
  have hta := assert_no
  clear hmk
  go_enter Ybad.func10, Ybad.ntmps10
  go_wp2_with (go_at_call 11; go_in)
  go_end0
  go_wp2
  go_ret
  exact ⟨rfl, rfl⟩

theorem newLine_any (sb : Nat) (w : World) :
    Calls Ybad.prog 4 #[.iface 23 (.pointer (some ⟨sb, 0, none⟩))] w fun e w' => e = .returned (.pointer (some ⟨w.heap.size + 2, 0, none⟩)) ∧
      w' = ((w.alloc (.cells #[.slice (some ⟨w.heap.size + 1, 0, none⟩) 4096 4096, .iface 23 (.pointer (some ⟨sb, 0, none⟩)), .int .i64 0, .int .i64 0, .nilIface, .int .i64 (-1), .int .i64 (-1)] 45)).alloc (.cells (madeCells #[.int .u8 0] 4096) 5)).alloc
        (.cells #[.pointer (some ⟨w.heap.size, 0, none⟩), .nilIface, .bool false] 32) := by
  go_enter Ybad.func4, Ybad.ntmps4
  go_wp2_with (first | (go_at_call 8; go_in) | (go_at_call 10; refine (newSize_any sb _).mono ?_; rintro e w' ⟨rfl, rfl⟩))
  go_ret
  exact ⟨rfl, rfl⟩
end Go.Proofs.YbulkdlooDoor.A
