/-
  bytes.Equal AND THE HEADER's COMPARISON.
-/
import Derived.Test.YbulkaqtiFmtQueue
import Derived.Laws.BytesArg
namespace Go.Proofs.YbulkaqtiFmt
open Go.RowKit
set_option linter.unusedVariables false

theorem conv_byts {w : World} {g n c : Nat} {bs : Nat → Int} (h : w.heap[g]? = some (.cells (byts bs n).toArray 5 (0, 0))) :
    (convert 31 9 (.slice (some ⟨g, 0, none⟩) n c)).run Ybaf.prog w = .ok (.string (strOfNums ((List.range n).map bs))) w := by
  refine run_convert_bytes_arg w 31 5 Ybaf.underlying31 Ybaf.underlying5 g 0 n c ((List.range n).map bs) (by simp) ?_ 9 Ybaf.underlying9
  intro i hi
  have := cell_heap h i (.int .u8 (bs i)) (by have := byts_at bs n i hi; simpa using this)
  rw [Nat.zero_add, this]
  simp [hi]

set_option maxHeartbeats 1000000 in
set_option maxRecDepth 100000 in
theorem equal_any (g g' n c c' : Nat) (bs : Nat → Int) (w : World) (h : w.heap[g]? = some (.cells (byts bs n).toArray 5 (0, 0))) (h' : w.heap[g']? = some (.cells (byts bs n).toArray 5 (0, 0))) :
    Calls Ybaf.prog 16 #[.slice (some ⟨g, 0, none⟩) n c, .slice (some ⟨g', 0, none⟩) n c'] w fun e w' => e = .returned (.bool true) ∧ w' = w := by
  have k := conv_byts (c := c) h
  have k' := conv_byts (c := c') h'
  clear h h'
  go_enter Ybaf.func16, Ybaf.ntmps16
  go_wp2
  go_ret
  exact ⟨rfl, rfl⟩

set_option maxRecDepth 100000 in
theorem neq_head (h wb l : Bool) (D S Fn Nm Sy : Int) (w : World) :
    (binOp .neq 49 (.agg #[.bool h, .int .u16 D, .bool wb, .int .u8 S, .int .u8 Fn, .bool l, .int .u16 Nm, .int .u32 Sy]) (.agg #[.bool h, .int .u16 D, .bool wb, .int .u8 S, .int .u8 Fn, .bool l, .int .u16 Nm, .int .u32 Sy])).run Ybaf.prog w = .ok (.bool false) w := by
  simp [go_sem, Ybaf.underlying49]
end Go.Proofs.YbulkaqtiFmt
