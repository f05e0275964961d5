import Derived.Test.YbulkdwsuColl
namespace Go.Proofs.Ybulkdwsu
open Go.RowKit Go.Maps

theorem size21 : (Yba.prog.info? 21).map (·.size) = some 1 := by kernel_rfl
/-- one character out of a row by value. -/
theorem idx27 (CL : List Value) (t : Nat) (ht : t < 256) (c : Int) (hv : CL[t]? = some (.int .i32 c)) (w : World) :
    (Instr.index 27 (.agg CL.toArray) (.int .i64 (t : Nat))).run Yba.prog w = .ok (.int .i32 c) w := by
  obtain ⟨j, hj, hs⟩ := Option.map_eq_some_iff.1 size21
  simp [Instr.index, asIntOf, run_underlying Yba.underlying27, sizeOf, typeInfo, hj, hs, Sem.run_bind, part, isAgg, run_underlying Yba.underlying21, hv, go_sem]
  omega
end Go.Proofs.Ybulkdwsu
