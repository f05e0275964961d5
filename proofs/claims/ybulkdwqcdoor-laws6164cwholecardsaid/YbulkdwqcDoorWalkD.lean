import Derived.Test.YbulkdwqcDoorPlainC
import Derived.Test.YbulkdwqcDoorProg
import Derived.WalkKit
import Derived.WalkSpells
import Derived.WalkLawsBesides
import Derived.Laws.FloatArith
namespace Go.Proofs.YbulkdwqcDoor
open Go.RowKit PlainA PlainC

theorem results4C {fn : Func} {t u v x : Tmp} (h : fn.results = #[.tmp t, .tmp u, .tmp v, .tmp x]) (tmps : Array Value) (P : Program) (w : World) :
    (results fn tmps).run P w = .ok (.tuple #[tmps.getD t undef, tmps.getD u undef, tmps.getD v undef, tmps.getD x undef]) w := by
  simp [results, h]

/-! ### small callees -/
set_option maxHeartbeats 400000 in
theorem isDigit_any (z : Nat) (w : World) : Calls Ybad.prog 24 #[.int .u8 (z : Int)] w fun e w' => e = .returned (.bool (isDig z)) ∧ w' = w := by
  have e : isDig z = (decide (48 ≤ (z : Int)) && decide ((z : Int) ≤ 57)) := by
    unfold isDig; congr 1 <;> (congr 1; apply propext; omega)
  rw [e]
  clear e
  by_cases h1 : 48 ≤ (z : Int)
  all_goals by_cases h2 : (z : Int) ≤ 57
  all_goals
    go_enter Ybad.func24, Ybad.ntmps24
    go_wp2
    go_ret
    simp [h1, h2]

theorem isEnd_int (z : Nat) : isEnd z = (((z : Int) == 44) || (((z : Int) == 10) || ((z : Int) == 13))) := by
  have e : ∀ k : Nat, decide (z = k) = ((z : Int) == (k : Int)) := by
    intro k
    by_cases h : z = k
    · simp [h]
    · simp [h]; omega
  unfold isEnd
  rw [e 44, e 10, e 13]
  rfl

set_option maxHeartbeats 400000 in
theorem isFieldEnd_any (z : Nat) (w : World) : Calls Ybad.prog 16 #[.int .u8 (z : Int)] w fun e w' => e = .returned (.bool (isEnd z)) ∧ w' = w := by
  rw [isEnd_int]
  cases h1 : ((z : Int) == 44)
  all_goals cases h2 : ((z : Int) == 10)
  all_goals cases h3 : ((z : Int) == 13)
  all_goals
    go_enter Ybad.func16, Ybad.ntmps16
    go_wp2
    go_ret
    simp

set_option maxHeartbeats 400000 in
theorem cend_any (z : Nat) (w : World) : Calls Ybad.prog 19 #[.int .u8 (z : Int)] w fun e w' => e = .returned (.bool (isEnd z)) ∧ w' = w := by
  rw [isEnd_int]
  cases h1 : ((z : Int) == 44)
  all_goals cases h2 : ((z : Int) == 10)
  all_goals cases h3 : ((z : Int) == 13)
  all_goals
    go_enter Ybad.func19, Ybad.ntmps19
    go_wp2
    go_ret
    simp

set_option maxHeartbeats 400000 in
theorem sign_any (bk o N c z : Nat) (w : World) (hN : 1 ≤ N) (hN20 : N ≤ 1048576) (hcell : w.cell? ⟨bk, o, none⟩ = some (.int .u8 (z : Nat))) :
    Calls Ybad.prog 23 #[.slice (some ⟨bk, o, none⟩) N c, .int .i64 0] w fun e w' => e = .returned (.int .i64 (sgn z : Nat)) ∧ w' = w := by
  have h0 : (0 : Int) < (N : Int) := by omega
  by_cases h1 : z = 43
  · have e : sgn z = 1 := by unfold sgn; rw [if_pos (.inl h1)]
    rw [e]
    have h1' : ((z : Int) == 43) = true := by simp; omega
    clear h1
    go_enter Ybad.func23, Ybad.ntmps23
    go_wp2
    go_ret
    exact ⟨rfl, rfl⟩
  · have h1' : ((z : Int) == 43) = false := by simp; omega
    by_cases h2 : z = 45
    · have e : sgn z = 1 := by unfold sgn; rw [if_pos (.inr h2)]
      rw [e]
      have h2' : ((z : Int) == 45) = true := by simp; omega
      clear h2
      go_enter Ybad.func23, Ybad.ntmps23
      go_wp2
      go_ret
      exact ⟨rfl, rfl⟩
    · have e : sgn z = 0 := by unfold sgn; rw [if_neg (by omega)]
      rw [e]
      have h2' : ((z : Int) == 45) = false := by simp; omega
      go_enter Ybad.func23, Ybad.ntmps23
      go_wp2
      go_ret
      exact ⟨rfl, rfl⟩

set_option maxHeartbeats 400000 in
theorem sign_empty (a : Option Addr) (c : Nat) (w : World) :
    Calls Ybad.prog 23 #[.slice a 0 c, .int .i64 0] w fun e w' => e = .returned (.int .i64 0) ∧ w' = w := by
  go_enter Ybad.func23, Ybad.ntmps23
  go_wp2
  go_ret
  exact ⟨rfl, rfl⟩
end Go.Proofs.YbulkdwqcDoor
