import Derived.WalkKit
import Derived.WalkSpells
namespace Go.Proofs.Ybulkdwsg
open Go.RowKit

/-- THE CALL's OWN MEMORY: the shards' row in block S = w0.heap.size, the engine in the next; cell o of shard j holds 'V j o'. -/
structure Sh (w0 : World) (n : Nat) (V : Nat → Nat → Value) (wr : World) : Prop where
  below : Below w0.heap.size w0 wr
  eng : wr.cell? ⟨w0.heap.size + 1, 10, none⟩ = some (.slice (some ⟨w0.heap.size, 0, none⟩) n n)
  cell : ∀ j o, j < n → o < 144 → wr.cell? ⟨w0.heap.size, j * 144 + o, none⟩ = some (V j o)
  free : ∀ p, wr.frozen? ⟨w0.heap.size, p, none⟩ = false

def upd (V : Nat → Nat → Value) (j0 o0 : Nat) (v : Value) : Nat → Nat → Value := fun j o => if j = j0 ∧ o = o0 then v else V j o

theorem Sh.set {w0 wr : World} {n : Nat} {V : Nat → Nat → Value} (h : Sh w0 n V wr) {j0 o0 : Nat} (hj : j0 < n) (ho : o0 < 144) (v : Value) :
    Sh w0 n (upd V j0 o0 v) (wr.setCell ⟨w0.heap.size, j0 * 144 + o0, none⟩ v) := by
  refine ⟨h.below.setCell (Nat.le_refl _) _, ?_, ?_, ?_⟩
  · rw [World.cell?_setCell_other _ _ _ _ (by simp)]; exact h.eng
  · intro j o hj' ho'
    unfold upd
    by_cases e : j = j0 ∧ o = o0
    · rw [if_pos e, e.1, e.2]
      exact World.cell?_setCell_same _ _ _ (h.cell j0 o0 hj ho)
    · rw [if_neg e]
      have hne : (⟨w0.heap.size, j0 * 144 + o0, none⟩ : Addr) ≠ ⟨w0.heap.size, j * 144 + o, none⟩ := by
        intro h2; simp only [Addr.mk.injEq, true_and, and_true] at h2; omega
      exact (World.cell?_setCell_other _ _ _ _ hne).trans (h.cell j o hj' ho')
  · intro p
    rw [World.frozen?_setCell]; exact h.free p

theorem Sh.congr {w0 wr : World} {n : Nat} {V V' : Nat → Nat → Value} (h : Sh w0 n V wr) (e : ∀ j o, j < n → o < 144 → V j o = V' j o) : Sh w0 n V' wr :=
  ⟨h.below, h.eng, fun j o hj ho => by rw [← e j o hj ho]; exact h.cell j o hj ho, h.free⟩

/-- WHAT THE SHARDS HOLD: the first t are filled; shard j's lock reads L j; the rest is zero, as 'z' says. -/
def cont (z : Nat → Value) (E : Nat) (f : Nat → Int) (t : Nat) (L : Nat → Int) (j o : Nat) : Value :=
  if o = 3 then .int .i32 (L j)
  else if j < t then
    if o = 0 then .pointer (some ⟨E, 0, none⟩) else if o = 1 then .int .i64 (j : Int) else if o = 12 then .int .u64 (f j) else if o = 13 then .int .i64 9223372036854775807 else z o
  else z o
end Go.Proofs.Ybulkdwsg
