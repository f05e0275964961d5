import Derived.Test.YbulkdwsgState
import Derived.Test.YbulkdwsgTry
namespace Go.Proofs.Ybulkdwsg
open Go.RowKit

theorem info67 : ((Yba.prog.info? 67).map fun i => (i.zero.map fun z => (z.cells.size, z.cells[0]?, z.cells[1]?, z.cells[3]?, z.cells[12]?, z.cells[13]?, z.cells[14]?), i.size, i.bytes))
    = some (some (144, some (Value.pointer none), some (Value.int .i64 0), some (Value.int .i32 0), some (Value.int .u64 0), some (Value.int .i64 0), some (Value.bool false)), 144, 296) := by kernel_rfl

/-- the zero shard. -/
structure Zero (z : Nat → Value) : Prop where
  e : z 0 = .pointer none
  i : z 1 = .int .i64 0
  mu : z 3 = .int .i32 0
  fired : z 12 = .int .u64 0
  alarm : z 13 = .int .i64 0
  closed : z 14 = .bool false

theorem make_shards (n : Nat) (hn : n ≤ 1024) : ∃ (C : Array Value) (z : Nat → Value), Zero z ∧ C.size = n * 144 ∧ (∀ j o, j < n → o < 144 → C[j * 144 + o]? = some (z o)) ∧
    ∀ w : World, (Instr.makeSlice 25 (.int .i64 (n : Int)) (.int .i64 (n : Int))).run Yba.prog w = .ok (.slice (some ⟨w.heap.size, 0, none⟩) n n) (w.alloc (.cells C 67)) := by
  obtain ⟨i, hi, h⟩ := Option.map_eq_some_iff.1 info67
  simp only [Prod.mk.injEq] at h
  obtain ⟨hz, hs, hb⟩ := h
  obtain ⟨z, hz1, hz2⟩ := Option.map_eq_some_iff.1 hz
  simp only [Prod.mk.injEq] at hz2
  obtain ⟨z0, z1, z2, z3, z4, z5, z6⟩ := hz2
  have at_ : ∀ (o : Nat) (v : Value), z.cells[o]? = some v → z.cells[o]! = v := by
    intro o v hv
    rw [getElem!_def, hv]
  refine ⟨madeCells z.cells (n * 144), fun o => z.cells[o]!, ⟨at_ _ _ z1, at_ _ _ z2, at_ _ _ z3, at_ _ _ z4, at_ _ _ z5, at_ _ _ z6⟩, size_madeCells _ _, ?_, ?_⟩
  · intro j o hj ho
    have hp : j * 144 + o < n * 144 := by omega
    unfold madeCells
    rw [Array.getElem?_map, Array.getElem?_range, if_pos hp]
    simp only [Option.map_some, z0]
    have : (j * 144 + o) % 144 = o := by omega
    rw [this]
  · intro w
    have := run_make (P := Yba.prog) w 25 67 i z Yba.underlying25 hi hz1 .i64 .i64 (n : Int) (n : Int) (by omega) (by omega) (by rw [hb]; omega) (by omega)
    rw [this, hs, Int.toNat_natCast]

/-- the engine as the literal lays it. -/
def engine (S n : Nat) : Array Value := #[Value.int IntKind.u64 0, Value.int IntKind.i64 0, Value.pointer none, Value.bool true, Value.chan none, Value.int IntKind.u32 0, Value.int IntKind.i32 0, Value.int IntKind.u32 0, Value.int IntKind.u64 0,
  Value.int IntKind.u32 0, Value.slice (some ⟨S, 0, none⟩) n n, Value.int IntKind.i64 0, Value.int IntKind.u64 0, Value.pointer none, Value.int IntKind.u64 0, Value.pointer none, Value.int IntKind.u64 0, Value.nilFunc]

theorem build_engine (S n : Nat) (w : World) : (Instr.build 57 #[(1, .bool true), (5, .slice (some ⟨S, 0, none⟩) n n)]).run Yba.prog w = .ok (.agg (engine S n)) w := by kernel_rfl

theorem start_sh (w : World) (n : Nat) (C : Array Value) (z : Nat → Value) (f : Nat → Int) (hz : Zero z) (hC : ∀ j o, j < n → o < 144 → C[j * 144 + o]? = some (z o)) :
    Sh w n (cont z (w.heap.size + 1) f 0 (fun _ => 0)) ((w.alloc (.cells C 67)).alloc (.cells (engine w.heap.size n) 57)) := by
  refine ⟨((Below.refl _ _).alloc (Nat.le_refl _) _).alloc (by simp) _, ?_, ?_, ?_⟩
  · rw [World.cell?_alloc2_new]; rfl
  · intro j o hj ho
    rw [World.cell?_alloc2_first, hC j o hj ho]
    unfold cont
    by_cases h3 : o = 3
    · rw [if_pos h3, h3, hz.mu]
    · rw [if_neg h3, if_neg (by omega)]
  · intro p
    exact World.frozen?_alloc2_first _ _ _ _
end Go.Proofs.Ybulkdwsg
