import Derived.Test.Qxb6615473aMove
import Derived.Test.Qxb6615473aLocks
import Derived.Conc.MuLone
import Derived.Deep.CutRange
namespace Go.Proofs.Qxb6615473a
open Go.RowKit Go.Maps Go.MuLone
set_option linter.unusedVariables false

/-- An event, as Observe takes it. -/
def evCells (ty rs : ByteArray) (id d : Int) : Array Value :=
  #[.string ty, .string ⟨#[]⟩, .int .i64 id, .string rs, .int .i64 d, .int .i64 0, .int .i64 0, .int .i64 0, .int .i64 0, .int .i64 0, .int .i64 0, .int .i64 0, .int .i64 0, .int .i64 0, .bool false, .bool false, .string ⟨#[]⟩, .int .i64 0]

theorem size55 : (Try.prog.info? 55).map (·.size) = some 18 := by kernel_rfl

set_option maxRecDepth 20000 in
set_option maxHeartbeats 1000000 in
theorem event_any (ty rs : ByteArray) (id d : Int) (w : World) :
    Calls Try.prog 16 #[.string ty, .int .i64 id, .string rs, .int .i64 d] w fun e w' => e = .returned (.agg (evCells ty rs id d)) ∧ w' = w.alloc (.cells (evCells ty rs id d) 55) := by
  unfold evCells
  go_enter Try.func16, Try.ntmps16
  go_wp2_with fail
  exact bodyPost_ret (results_cell_row rfl _ _ w.heap.size 55 _ (0, 0) _ rfl (heap_alloc_new w _) Try.underlying55 rfl size55) rfl ⟨rfl, rfl⟩
end Go.Proofs.Qxb6615473a
