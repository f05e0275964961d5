import Derived.Test.YbulkdwsuSame
import Derived.BigQuiet
import Derived.Lib.Builder
namespace Go.Proofs.Ybulkdwsu
open Go.RowKit Go.Maps

/-- the list of a row's 256 characters. -/
structure RowOf (CL : List Value) (ch : Nat → Int) : Prop where
  len : CL.length = 256
  get : ∀ j, j < 256 → CL[j]? = some (.int .i32 (ch j))
  one : ∀ v ∈ CL, v.oneCell' = true

theorem row_of (ch : Nat → Int) : ∃ CL, RowOf CL ch :=
  ⟨(List.range 256).map fun j => Value.int .i32 (ch j), by simp, fun j hj => by rw [List.getElem?_map, List.getElem?_range hj]; rfl, fun v hv => by
    obtain ⟨j, _, rfl⟩ := List.mem_map.1 hv
    rfl⟩

theorem RowOf.info {CL : List Value} {ch : Nat → Int} (h : RowOf CL ch) : (Yba.prog.info? 27).map (·.size) = some CL.length := by rw [h.len]; exact size27

theorem RowOf.of_cells {CL : List Value} {ch : Nat → Int} (h : RowOf CL ch) {w : World} {b o : Nat} (hc : ∀ j, j < 256 → w.cell? ⟨b, o + j, none⟩ = some (.int .i32 (ch j))) : w.rangeAt b o CL := by
  intro j v hv
  have hj : j < 256 := by rw [← h.len]; exact (List.getElem?_eq_some_iff.1 hv).1
  rw [h.get j hj] at hv
  obtain rfl : Value.int .i32 (ch j) = v := Option.some.inj hv
  exact hc j hj

theorem RowOf.load {CL : List Value} {ch : Nat → Int} (h : RowOf CL ch) {w : World} {b o : Nat} (hc : ∀ j, j < 256 → w.cell? ⟨b, o + j, none⟩ = some (.int .i32 (ch j))) :
    (Instr.loadAt 27 (.pointer (some ⟨b, o, none⟩))).run Yba.prog w = .ok (.agg CL.toArray) w :=
  run_loadAt_mid w b o 27 CL _ (h.of_cells hc) Yba.underlying27 rfl h.info

theorem RowOf.store {CL : List Value} {ch : Nat → Int} (h : RowOf CL ch) {Z : Array Value} (hZ : Z.size = 256) (w : World) :
    (Instr.storeAt 27 (.pointer (some ⟨w.heap.size, 0, none⟩)) (.agg CL.toArray)).run Yba.prog (w.alloc (.cells Z 27)) = .ok () (w.alloc (.cells CL.toArray 27)) :=
  run_storeAt_new w 27 Z CL.toArray (by rw [h.info]; simp) (by rw [hZ]; simp [h.len]) (all_oneCell_toArray h.one)

theorem RowOf.cells {CL : List Value} {ch : Nat → Int} (h : RowOf CL ch) (w : World) (j : Nat) (hj : j < 256) : (w.alloc (.cells CL.toArray 27)).cell? ⟨w.heap.size, j, none⟩ = some (.int .i32 (ch j)) := by
  rw [World.cell?_alloc_new]
  simpa using h.get j hj

/-- THE STORE of a whole row into the variable that was made last. -/
theorem wpList_store27 {ops : Array Oper} {rest : List Oper} {op : Oper} {a : Act} {w : World} {Q : Exit → Act → World → Prop} (hgd : op.guard = none) (x y : Operand) (ho : op.op = .store 27 x y)
    {CL : List Value} {ch : Nat → Int} (hr : RowOf CL ch) {Z : Array Value} (hZ : Z.size = 256) (hx : a.eval x = .pointer (some ⟨w.heap.size, 0, none⟩)) (hy : a.eval y = .agg CL.toArray)
    (h : wpList Yba.prog ops Q rest (a.put op.dst undef) (w.alloc (.cells CL.toArray 27))) : wpList Yba.prog ops Q (op :: rest) a (w.alloc (.cells Z 27)) :=
  wpList_plain hgd fun _ hK => by
    unfold Oper.wp execOp
    simp only [ho, hx, hy, Sem.run_bind, hr.store hZ w, Result.andThen_ok]
    exact hK _ _ h

/-- THE LOAD of a whole row in a region that only reads. -/
theorem quiet_load27 {o : Oper} {a : Act} {C : World → Prop} {K : Act → Prop} (x : Operand) (ho : o.op = .load 27 x) (v : Value) (h : ∀ w, C w → (Instr.loadAt 27 (a.eval x)).run Yba.prog w = .ok v w)
    (hk : K (a.put o.dst v)) : o.quiet Yba.prog a C K :=
  ⟨v, fun w hw => by unfold Oper.quietAt execOp; simp only [ho, Sem.run_bind, h w hw, Result.andThen_ok]; exact ⟨rfl, rfl⟩, hk⟩

theorem Col.drewN {w0 wr : World} {pd : Nat} {str : ByteArray} {G : Nat → Option Nat} {t : Nat} (h : Col w0 pd str G t wr) (n : Nat) : Col w0 pd str G t (wr.drewN n) :=
  ⟨⟨h.below.os, h.below.tape, h.below.output, h.below.size, h.below.block⟩, h.data, h.order, h.places, h.placed, h.free⟩

theorem info29' (a : Addr) (w : World) : (binOp .neq 24 (.pointer (some a)) (.pointer (some a))).run Yba.prog w = .ok (.bool false) w := by
  obtain ⟨j, hj, _⟩ := info29
  exact Lib.run_neq_ptr_same (P := Yba.prog) w a Yba.underlying24 hj
end Go.Proofs.Ybulkdwsu
