/- OF NO PROGRAM: the scan of a short number, byte by byte. -/
import Derived.Test.YbulkdwqcDoorPlainA
namespace Go.Proofs.YbulkdwqcDoor.PlainC
open Go PlainA

/-- the number so far, its digits, those behind the point, whether a point was met. -/
structure St where
  n : Nat
  d : Nat
  a : Nat
  s : Bool

def stp (x : St) (z : Nat) : St :=
  if isDig z = true then ⟨(x.n * 10 + (z - 48)) % 18446744073709551616, x.d + 1, if x.s = true then x.a + 1 else x.a, x.s⟩ else ⟨x.n, x.d, x.a, true⟩

/-- the state behind the first t bytes. -/
def nxt (g : Nat → Nat) : Nat → St
  | 0 => ⟨0, 0, 0, false⟩
  | t + 1 => stp (nxt g t) (g t)

/-- is the byte z taken? -/
def acc (x : St) (z : Nat) : Bool := isDig z || (decide (z = 46) && !x.s)

theorem stops (g : Nat → Nat) : ∀ N : Nat, ∃ T, T ≤ N ∧ (∀ t, t < T → acc (nxt g t) (g t) = true) ∧ (T = N ∨ acc (nxt g T) (g T) = false)
  | 0 => ⟨0, Nat.le_refl _, fun t h => by omega, .inl rfl⟩
  | N + 1 => by
    obtain ⟨T, h1, h2, h3⟩ := stops g N
    rcases h3 with h3 | h3
    · by_cases ha : acc (nxt g T) (g T) = true
      · refine ⟨T + 1, by omega, fun t ht => ?_, .inl (by omega)⟩
        by_cases e : t = T
        · rw [e]; exact ha
        · exact h2 t (by omega)
      · exact ⟨T, by omega, h2, .inr (by simpa using ha)⟩
    · exact ⟨T, by omega, h2, .inr h3⟩

theorem inv (g : Nat → Nat) : ∀ t : Nat, (∀ r, r < t → acc (nxt g r) (g r) = true) →
    (nxt g t).d ≤ t ∧ (nxt g t).a ≤ (nxt g t).d ∧ ((nxt g t).s = false → (nxt g t).a = 0) ∧ ((nxt g t).s = true → (nxt g t).a + 1 ≤ t) ∧ (nxt g t).n < 18446744073709551616
  | 0, _ => by simp [nxt]
  | t + 1, h => by
    obtain ⟨i1, i2, i3, i4, i5⟩ := inv g t (fun r hr => h r (by omega))
    have ha := h t (by omega)
    unfold nxt stp
    by_cases hd : isDig (g t) = true
    · rw [if_pos hd]
      by_cases hs : (nxt g t).s = true
      · simp only [hs, if_true]
        have := i4 hs
        refine ⟨by omega, by omega, ?_, fun _ => by omega, Nat.mod_lt _ (by omega)⟩
        intro hf; cases hf
      · have hs' : (nxt g t).s = false := by simpa using hs
        simp only [hs', Bool.false_eq_true, if_false]
        refine ⟨by omega, by omega, fun _ => i3 hs', ?_, Nat.mod_lt _ (by omega)⟩
        intro hf; cases hf
    · rw [if_neg hd]
      unfold acc at ha
      have hs' : (nxt g t).s = false := by
        cases hs : (nxt g t).s with
        | false => rfl
        | true => simp [hd, hs] at ha
      have := i3 hs'
      refine ⟨by simp; omega, i2, ?_, fun _ => by simp [this], i5⟩
      intro hf; cases hf

/-- the place behind the point, 0 where none was met: as 'shortDigits' keeps it; the scan began at place i0. -/
def pt (i0 t : Nat) (x : St) : Nat := if x.s = true then i0 + t - x.a else 0

def okd (d : Nat) : Bool := decide (1 ≤ d) && decide (d ≤ 15)

/-- does the byte end a field? -/
def isEnd (z : Nat) : Bool := decide (z = 44) || (decide (z = 10) || decide (z = 13))

/-- a sign's length. -/
def sgn (z : Nat) : Nat := if z = 43 ∨ z = 45 then 1 else 0
end Go.Proofs.YbulkdwqcDoor.PlainC
