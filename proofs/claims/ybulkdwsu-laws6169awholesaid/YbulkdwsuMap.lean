import Derived.Test.YbulkdwsuProg
import Derived.WalkKit
import Derived.WalkSpells
import Derived.WalkLawsBesides
import Derived.Maps.OwnSet
namespace Go.Proofs.Ybulkdwsu
open Go.RowKit Go.Maps

/-- the first place below t at which 'ch' is r. -/
def fst (ch : Nat → Int) : Nat → Int → Option Nat
  | 0, _ => none
  | t + 1, r => match fst ch t r with
    | some j => some j
    | none => if ch t = r then some t else none

theorem fst_lt (ch : Nat → Int) : ∀ (t : Nat) (r : Int) (j : Nat), fst ch t r = some j → j < t ∧ ch j = r
  | 0, _, _, h => by simp [fst] at h
  | t + 1, r, j, h => by
    unfold fst at h
    cases e : fst ch t r with
    | some i =>
      rw [e] at h
      obtain rfl : i = j := Option.some.inj h
      have := fst_lt ch t r i e
      exact ⟨by omega, this.2⟩
    | none =>
      rw [e] at h
      simp only at h
      split at h
      · rename_i hc
        obtain rfl : t = j := Option.some.inj h
        exact ⟨by omega, hc⟩
      · cases h

/-- nothing is met below j, and j is met: j is the first. -/
theorem fst_first (ch : Nat → Int) (r : Int) : ∀ t j : Nat, j < t → ch j = r → (∀ i, i < j → ch i ≠ r) → fst ch t r = some j
  | 0, _, h, _, _ => by omega
  | t + 1, j, h, hj, hn => by
    unfold fst
    by_cases e : j < t
    · rw [fst_first ch r t j e hj hn]
    · obtain rfl : j = t := by omega
      have : fst ch j r = none := by
        cases e2 : fst ch j r with
        | none => rfl
        | some i => obtain ⟨h1, h2⟩ := fst_lt ch j r i e2; exact absurd h2 (hn i h1)
      rw [this]
      simp [hj]
theorem fst_none (ch : Nat → Int) (r : Int) : ∀ t : Nat, (∀ i, i < t → ch i ≠ r) → fst ch t r = none := by
  intro t hn
  cases e2 : fst ch t r with
  | none => rfl
  | some i => obtain ⟨h1, h2⟩ := fst_lt ch t r i e2; exact absurd h2 (hn i h1)

/-- BLOCK m IS A MAP OF AT MOST k ENTRIES THAT ANSWERS F r AT EVERY RUNE r. -/
def MapAt (w : World) (m k : Nat) (F : Int → Option Nat) : Prop :=
  ∃ D : DataW Unit, w.ownsMap Yba.prog 21 (plainElem Yba.prog 5) m k D ∧
    ∀ r, Maps.has D (.int .i32 r) = (F r).isSome ∧ D.atKey (.int .i32 r) (.lit (.int .u8 0)) = .lit (.int .u8 (((F r).getD 0 : Nat) : Int))

theorem zero5 (w : World) : (zeroValue 5).run Yba.prog w = .ok (.int .u8 0) w := by kernel_rfl
theorem keyed : Keyed Yba.prog 21 := int_keyed Yba.underlying21

theorem MapAt.look {w : World} {m k : Nat} {F : Int → Option Nat} (h : MapAt w m k F) {r : Int} (hr : (Lit.int .i32 r).wf = true) :
    (Instr.lookup 26 (.map (some m)) (.int .i32 r) true).run Yba.prog w = .ok (.tuple #[.int .u8 (((F r).getD 0 : Nat) : Int), .bool (F r).isSome]) w := by
  obtain ⟨D, hown, hD⟩ := h
  obtain ⟨v, ps, hrun, hv⟩ := hown.look_ok keyed Yba.underlying26 (zero5 w) (plainElem_int Yba.underlying5 (by decide)) (keyOf_int_mk Yba.underlying21 hr)
  obtain ⟨c, rfl, hc, _⟩ := plainElem_int_inv Yba.underlying5 hv
  have h1 := congrArg Prod.fst hc
  simp only at h1
  rw [(hD r).2] at h1
  rw [(hD r).1] at hrun
  have h2 : (((F r).getD 0 : Nat) : Int) = c := by simpa using h1
  rw [h2]
  exact hrun

theorem MapAt.len {w : World} {m k : Nat} {F : Int → Option Nat} (h : MapAt w m k F) : ∃ L : Nat, ∀ (w' : World), w'.heap[m]? = w.heap[m]? → ∀ ty, (Builtin.len_ #[26] ty #[.map (some m)]).run Yba.prog w' = .ok (.int .i64 (L : Int)) w' := by
  obtain ⟨D, hown, hD⟩ := h
  refine ⟨Maps.size D, fun w' hw ty => ?_⟩
  have hown' : w'.ownsMap Yba.prog 21 (plainElem Yba.prog 5) m k D := by
    obtain ⟨es, clock, hb, rest⟩ := hown
    exact ⟨es, clock, hw.trans hb, rest⟩
  exact hown'.len Yba.underlying26 ty

theorem MapAt.of_heap {w w' : World} {m k : Nat} {F : Int → Option Nat} (h : MapAt w m k F) (hw : w'.heap[m]? = w.heap[m]?) : MapAt w' m k F := by
  obtain ⟨D, hown, hD⟩ := h
  obtain ⟨es, clock, hb, rest⟩ := hown
  exact ⟨D, ⟨es, clock, hw.trans hb, rest⟩, hD⟩

theorem MapAt.lt {w : World} {m k : Nat} {F : Int → Option Nat} (h : MapAt w m k F) : m < w.heap.size := by
  obtain ⟨D, hown, _⟩ := h
  exact hown.lt

theorem mapAt_made (w : World) : MapAt (w.alloc (.map #[] 0)) w.heap.size 0 (fun _ => none) :=
  ⟨.map [], World.ownsMap_made _ _ _ _, fun _ => ⟨rfl, rfl⟩⟩

theorem mapAt_put {w1 : World} {m k : Nat} {F : Int → Option Nat} {D : DataW Unit} {r : Int} {v : Nat} (hD0 : IsMap D)
    (hD : ∀ r, Maps.has D (.int .i32 r) = (F r).isSome ∧ D.atKey (.int .i32 r) (.lit (.int .u8 0)) = .lit (.int .u8 (((F r).getD 0 : Nat) : Int)))
    (h1 : w1.ownsMap Yba.prog 21 (plainElem Yba.prog 5) m k (D.put (.int .i32 r) (.lit (.int .u8 (v : Int))))) : MapAt w1 m k (fun x => if x = r then some v else F x) := by
  refine ⟨_, h1, fun x => ?_⟩
  by_cases e : x = r
  · subst e
    have hk : WideAt.IsKeyLit (Lit.int .i32 x) := trivial
    rw [has_put_same hD0 hk, atKey_put_same hD0 hk]
    simp
  · have hne : (Lit.int .i32 x) ≠ Lit.int .i32 r := by intro h; simp at h; exact e h
    rw [has_put_other hne, atKey_put_other hne]
    simp only [if_neg e]
    exact hD x
end Go.Proofs.Ybulkdwsu
