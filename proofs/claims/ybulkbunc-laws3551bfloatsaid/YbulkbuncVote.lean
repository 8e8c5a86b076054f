import Derived.Test.YbulkbuncReach
namespace Go.Proofs.Ybulkbunc.Fl
open Go.RowKit

/-- The zero value of a voteWithhold: its 70 cells. -/
def Z63 : Array Value := [.slice none 0 0, .float .f64 0, .float .f64 0, .int .i64 0, .int .i64 0, .slice none 0 0, .slice none 0 0, .slice none 0 0, .slice none 0 0, .nilFunc, .slice none 0 0, .slice none 0 0, .nilFunc, .slice none 0 0, .slice none 0 0, .nilFunc, .slice none 0 0, .slice none 0 0, .nilFunc, .slice none 0 0, .slice none 0 0, .nilFunc, .slice none 0 0, .bool false, .slice none 0 0, .float .f64 0, .float .f64 0, .float .f64 0, .int .i64 0, .float .f64 0, .int .i64 0, .float .f64 0, .int .i64 0, .int .u8 0, .float .f64 0, .int .i64 0, .float .f64 0, .float .f64 0, .int .i64 0, .int .i64 0].toArray ++ [.float .f64 0, .float .f64 0, .pointer none, .float .f64 0, .float .f64 0, .float .f64 0, .float .f64 0, .float .f64 0, .float .f64 0, .float .f64 0, .float .f64 0, .float .f64 0, .float .f64 0, .bool false, .bool false, .bool false, .bool false, .bool false, .bool false, .bool false, .bool false, .bool false, .bool false, .bool false, .bool false, .slice none 0 0, .int .u64 0, .int .u32 0, .int .i64 0, .bool false].toArray
theorem z63_run (w : World) : (zeroValue 63).run Yba.prog w = .ok (.agg Z63) w := by kernel_rfl
theorem z63_size : Z63.size = 70 := by kernel_rfl

/-- The cells that the laws lay. -/
def voteCells (a q : Nat) (c : Int) (v m h : Nat) : Array Value :=
  (((((Z63.setIfInBounds 1 (.float .f64 a)).setIfInBounds 2 (.float .f64 q)).setIfInBounds 3 (.int .i64 c)).setIfInBounds 25 (.float .f64 v)).setIfInBounds 29 (.float .f64 m)).setIfInBounds 27 (.float .f64 h)

theorem vote_cells (a q : Nat) (c : Int) (v m h : Nat) (w : World) :
    (w.alloc (.cells (voteCells a q c v m h) 63)).cell? ⟨w.heap.size, 25, none⟩ = some (.float .f64 v) ∧ (w.alloc (.cells (voteCells a q c v m h) 63)).cell? ⟨w.heap.size, 29, none⟩ = some (.float .f64 m) ∧
    (w.alloc (.cells (voteCells a q c v m h) 63)).cell? ⟨w.heap.size, 27, none⟩ = some (.float .f64 h) ∧ (w.alloc (.cells (voteCells a q c v m h) 63)).cell? ⟨w.heap.size, 1, none⟩ = some (.float .f64 a) ∧
    (w.alloc (.cells (voteCells a q c v m h) 63)).cell? ⟨w.heap.size, 2, none⟩ = some (.float .f64 q) ∧ (w.alloc (.cells (voteCells a q c v m h) 63)).cell? ⟨w.heap.size, 3, none⟩ = some (.int .i64 c) := by
  have hb : ∀ o, (w.alloc (.cells (voteCells a q c v m h) 63)).cell? ⟨w.heap.size, o, none⟩ = (voteCells a q c v m h)[o]? := fun o => cell_of_row _ _ _ _ _ _ (heap_alloc_new w _)
  have hz := z63_size
  refine ⟨(hb _).trans ?_, (hb _).trans ?_, (hb _).trans ?_, (hb _).trans ?_, (hb _).trans ?_, (hb _).trans ?_⟩ <;> simp [voteCells, hz]
end Go.Proofs.Ybulkbunc.Fl
