import Derived.Test.YbulkdwsuIdx
import Derived.ChangeKeysEq
import Derived.Laws.StructEq
import Derived.Deep.WholeRow
namespace Go.Proofs.Ybulkdwsu
open Go.RowKit Go.Maps

theorem eqItems_same (d : Nat) (CL : List Value) (c : Nat → Int) (w : World) (hc : ∀ j, j < 256 → CL[j]? = some (.int .i32 (c j))) :
    ∀ is : List Nat, (∀ i ∈ is, i < 256) → (Op.eqItems (d + 1) 21 (Yba.prog.cellsOf 21) CL.toArray CL.toArray is).run Yba.prog w = .ok true w
  | [], _ => by simp [Op.eqItems]
  | i :: is, h => by
    have hi := hc i (h i (by simp))
    have h1 : Yba.prog.cellsOf 21 = 1 := by kernel_rfl
    have ih := eqItems_same d CL c w hc is (fun j hj => h j (by simp [hj]))
    have hp : (part 21 CL.toArray (i * Yba.prog.cellsOf 21)).run Yba.prog w = .ok (.int .i32 (c i)) w := by
      rw [h1]
      simp [part, isAgg, run_underlying Yba.underlying21, hi, Sem.run_bind]
    have he : (Op.equalIn (d + 1) 21 (.int .i32 (c i)) (.int .i32 (c i))).run Yba.prog w = .ok true w := by
      simp [Op.equalIn, run_underlying Yba.underlying21, Sem.run_bind]
    simp only [Op.eqItems, Sem.run_bind, hp, he, Result.andThen_ok]
    simpa using ih

/-- a row is like itself. -/
theorem same27 (CL : List Value) (c : Nat → Int) (hc : ∀ j, j < 256 → CL[j]? = some (.int .i32 (c j))) (w : World) :
    (Op.equalIn 10000 27 (.agg CL.toArray) (.agg CL.toArray)).run Yba.prog w = .ok true w := by
  obtain ⟨j, hj, _⟩ := Option.map_eq_some_iff.1 size21
  rw [show (10000 : Nat) = 9998 + 1 + 1 from rfl, run_equalIn_array w (9998 + 1) CL.toArray CL.toArray Yba.underlying27 hj]
  exact eqItems_same 9998 CL c w hc _ (fun i hi => List.mem_range.1 hi)

theorem zero27 : ∃ Z : Array Value, Z.size = 256 ∧ ∀ w, (zeroValue 27).run Yba.prog w = .ok (.agg Z) w :=
  ⟨Array.replicate 256 (.int .i32 0), by simp, (zero_of_info (n := 256) (by kernel_rfl)).1⟩
end Go.Proofs.Ybulkdwsu
