import Derived.Test.YbulkdwsuState
import Derived.Deep.MidRow
import Derived.LaidEqlPtr
import Derived.BigRegion
namespace Go.Proofs.Ybulkdwsu
open Go.RowKit Go.Maps

def pre : ByteArray := ⟨#[99, 111, 100, 101, 32, 112, 97, 103, 101, 32]⟩

theorem built_coll (pd : Nat) (s : ByteArray) : Yba.prog.built 35 [(0, .pointer (some ⟨pd, 0, none⟩)), (1, .string s)] = some (#[.pointer (some ⟨pd, 0, none⟩), .string s] ++ (Array.replicate 256 (.int .u8 0) ++ Array.replicate 256 (.bool false))) := by kernel_rfl

theorem info29 : ∃ j, Yba.prog.info? 29 = some j ∧ j.size ≠ 0 := by
  obtain ⟨j, hj, hs⟩ := Option.map_eq_some_iff.1 (show (Yba.prog.info? 29).map (·.size) = some 258 by kernel_rfl)
  exact ⟨j, hj, by omega⟩
theorem size27 : (Yba.prog.info? 27).map (·.size) = some 256 := by kernel_rfl

/-- A COLLATION UNDER CONSTRUCTION in the block w0.heap.size: the first t places are filled. -/
structure Col (w0 : World) (pd : Nat) (str : ByteArray) (G : Nat → Option Nat) (t : Nat) (wr : World) : Prop where
  below : Below w0.heap.size w0 wr
  data : wr.cell? ⟨w0.heap.size, 0, none⟩ = some (.pointer (some ⟨pd, 0, none⟩))
  order : wr.cell? ⟨w0.heap.size, 1, none⟩ = some (.string str)
  places : ∀ j, j < 256 → wr.cell? ⟨w0.heap.size, 2 + j, none⟩ = some (.int .u8 ((if j < t then (G j).getD 0 else 0 : Nat) : Int))
  placed : ∀ j, j < 256 → wr.cell? ⟨w0.heap.size, 258 + j, none⟩ = some (.bool (if j < t then (G j).isSome else false))
  free : ∀ p, wr.frozen? ⟨w0.heap.size, p, none⟩ = false

theorem Col.drew {w0 wr : World} {pd : Nat} {str : ByteArray} {G : Nat → Option Nat} {t : Nat} (h : Col w0 pd str G t wr) : Col w0 pd str G t wr.drew :=
  ⟨h.below.drew, h.data, h.order, h.places, h.placed, h.free⟩

theorem Col.step {w0 wr : World} {pd : Nat} {str : ByteArray} {G : Nat → Option Nat} {t : Nat} (h : Col w0 pd str G t wr) (ht : t < 256) :
    Col w0 pd str G (t + 1) ((wr.setCell ⟨w0.heap.size, 2 + t, none⟩ (.int .u8 (((G t).getD 0 : Nat) : Int))).setCell ⟨w0.heap.size, 258 + t, none⟩ (.bool (G t).isSome)) := by
  have ne : ∀ a b : Nat, a ≠ b → (⟨w0.heap.size, a, none⟩ : Addr) ≠ ⟨w0.heap.size, b, none⟩ := by
    intro a b hab e; simp only [Addr.mk.injEq, true_and, and_true] at e; exact hab e
  refine ⟨(h.below.setCell (Nat.le_refl _) _).setCell (Nat.le_refl _) _, ?_, ?_, ?_, ?_, ?_⟩
  · exact (World.cell?_setCell_other _ _ _ _ (ne _ _ (by omega))).trans ((World.cell?_setCell_other _ _ _ _ (ne _ _ (by omega))).trans h.data)
  · exact (World.cell?_setCell_other _ _ _ _ (ne _ _ (by omega))).trans ((World.cell?_setCell_other _ _ _ _ (ne _ _ (by omega))).trans h.order)
  · intro j hj
    refine (World.cell?_setCell_other _ _ _ _ (ne _ _ (by omega))).trans ?_
    by_cases e : j = t
    · subst e
      rw [if_pos (by omega)]
      exact World.cell?_setCell_same _ _ _ (h.places j hj)
    · have e1 : (j < t + 1) = (j < t) := by apply propext; omega
      simp only [e1]
      exact (World.cell?_setCell_other _ _ _ _ (ne _ _ (by omega))).trans (h.places j hj)
  · intro j hj
    by_cases e : j = t
    · subst e
      rw [if_pos (by omega)]
      exact World.cell?_setCell_same _ _ _ ((World.cell?_setCell_other _ _ _ _ (ne _ _ (by omega))).trans (h.placed j hj))
    · have e1 : (j < t + 1) = (j < t) := by apply propext; omega
      simp only [e1]
      exact (World.cell?_setCell_other _ _ _ _ (ne _ _ (by omega))).trans ((World.cell?_setCell_other _ _ _ _ (ne _ _ (by omega))).trans (h.placed j hj))
  · intro p
    rw [World.frozen?_setCell, World.frozen?_setCell]; exact h.free p

theorem start_col (w : World) (pd : Nat) (s : ByteArray) (G : Nat → Option Nat) (C : Array Value) (hC : C = #[.pointer (some ⟨pd, 0, none⟩), .string s] ++ (Array.replicate 256 (.int .u8 0) ++ Array.replicate 256 (.bool false))) :
    Col w pd s G 0 (w.alloc (.cells C 35)) := by
  refine ⟨(Below.refl _ _).alloc (Nat.le_refl _) _, ?_, ?_, ?_, ?_, ?_⟩
  · rw [World.cell?_alloc_new, hC, Array.getElem?_append, if_pos (by simp)]; rfl
  · rw [World.cell?_alloc_new, hC, Array.getElem?_append, if_pos (by simp)]; rfl
  · intro j hj
    rw [World.cell?_alloc_new, hC, Array.getElem?_append, if_neg (by simp), Array.getElem?_append, if_pos (by simp; omega)]
    simp [hj]
  · intro j hj
    have h1 : ¬ 258 + j < (#[Value.pointer (some ⟨pd, 0, none⟩), Value.string s] : Array Value).size := by
      show ¬ 258 + j < 2
      omega
    have h2 : ¬ 258 + j - (#[Value.pointer (some ⟨pd, 0, none⟩), Value.string s] : Array Value).size < (Array.replicate 256 (Value.int .u8 0)).size := by
      rw [Array.size_replicate]
      show ¬ 258 + j - 2 < 256
      omega
    rw [World.cell?_alloc_new, hC, Array.getElem?_append, if_neg h1, Array.getElem?_append, if_neg h2, Array.getElem?_replicate, Array.size_replicate]
    rw [if_pos (by show 258 + j - 2 - 256 < 256; omega)]
    simp
  · intro p
    exact World.frozen?_alloc_new _ _ _ _

set_option maxHeartbeats 400000 in
theorem coll_same (p : Nat) (w : World) : Calls Yba.prog 5 #[.pointer (some ⟨p, 0, none⟩), .pointer (some ⟨p, 0, none⟩)] w fun e w' => e = .returned (.pointer none) ∧ w' = w := by
  obtain ⟨j, hj, hs⟩ := info29
  have he := fun (w : World) (a : Addr) => run_eql_ptr_same (P := Yba.prog) w a Yba.underlying24 hj
  clear hj hs
  go_enter Yba.func5, Yba.ntmps5
  go_wp2
  go_ret
  exact ⟨rfl, rfl⟩
end Go.Proofs.Ybulkdwsu
