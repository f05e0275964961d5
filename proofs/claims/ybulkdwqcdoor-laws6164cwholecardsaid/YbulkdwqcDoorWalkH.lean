import Derived.Test.YbulkdwqcDoorWalkG
import Derived.Laws.BytesArg
namespace Go.Proofs.YbulkdwqcDoor
open Go.RowKit PlainA PlainC

theorem ret_bool {a b : Bool} (h : a = b) : Ending.returned (.bool a) = .returned (.bool b) := by rw [h]

set_option maxHeartbeats 400000 in
theorem has_walk (bk o n c i : Nat) (S : ByteArray) (z : Nat) (r : Bool) (w : World) (hn20 : n ≤ 1048576) (hc : n ≤ c) (h4 : i + 4 < n)
    (HC : ∀ cap, (convert 22 9 (.slice (some ⟨bk, o + i, none⟩) 4 cap)).run Ybad.prog w = .ok (.string S) w)
    (hz : w.cell? ⟨bk, o + (i + 4), none⟩ = some (.int .u8 (z : Nat))) (HR : Hid (r = (decide (S.toList = [108, 111, 115, 115]) && isEnd z))) :
    Calls Ybad.prog 17 #[.slice (some ⟨bk, o, none⟩) n c, .int .i64 (i : Nat), .string ⟨#[108, 111, 115, 115]⟩] w fun e w' => e = .returned (.bool r) ∧ w' = w := by
  have hci : ¬ c = i := by omega
  have h4' : (4 : Int) < (n : Int) - (i : Int) := by omega
  have e4 : i + 4 - i = 4 := by omega
  go_enter Ybad.func17, Ybad.ntmps17
  go_wp2_with (go_at_call 16; refine (isFieldEnd_any _ _).mono ?_; rintro e w' ⟨rfl, rfl⟩)
  all_goals
    go_ret
    exact ⟨ret_bool (by rw [HR.out]; simp [*]), rfl⟩

set_option maxHeartbeats 400000 in
theorem has_short (a : Option Addr) (n c i : Nat) (w : World) (_hn20 : n ≤ 1048576) (hi : i ≤ n) (h4 : n ≤ i + 4) :
    Calls Ybad.prog 17 #[.slice a n c, .int .i64 (i : Nat), .string ⟨#[108, 111, 115, 115]⟩] w fun e w' => e = .returned (.bool false) ∧ w' = w := by
  have h4' : ¬ (4 : Int) < (n : Int) - (i : Int) := by omega
  go_enter Ybad.func17, Ybad.ntmps17
  go_wp2
  go_ret
  exact ⟨rfl, rfl⟩

/-- does LostValue follow at i, and then a field's end? -/
def isLoss (g : Nat → Nat) (i n : Nat) : Bool := decide (i + 4 < n) && (decide (g i = 108) && (decide (g (i + 1) = 111) && (decide (g (i + 2) = 115) && (decide (g (i + 3) = 115) && isEnd (g (i + 4))))))

theorem ofNat_inj {a b : Nat} (ha : a < 256) (hb : b < 256) : UInt8.ofNat a = UInt8.ofNat b ↔ a = b := by
  constructor
  · intro h
    have := congrArg UInt8.toNat h
    simp at this
    omega
  · intro h; rw [h]

theorem has_any (bk o n c i : Nat) (g : Nat → Nat) (w : World) (hn20 : n ≤ 1048576) (hc : n ≤ c) (hi : i ≤ n) (hb : ∀ t, t < n → g t < 256)
    (HG : ∀ t, t < n → w.cell? ⟨bk, o + t, none⟩ = some (.int .u8 (g t : Nat))) :
    Calls Ybad.prog 17 #[.slice (some ⟨bk, o, none⟩) n c, .int .i64 (i : Nat), .string ⟨#[108, 111, 115, 115]⟩] w fun e w' => e = .returned (.bool (isLoss g i n)) ∧ w' = w := by
  by_cases h4 : i + 4 < n
  · refine has_walk bk o n c i (strOfNums [(g i : Int), (g (i + 1) : Int), (g (i + 2) : Int), (g (i + 3) : Int)]) (g (i + 4)) _ w hn20 hc h4 ?_ (HG _ h4) ?_
    · intro cap
      refine run_convert_bytes_arg w 22 5 Ybad.underlying22 Ybad.underlying5 bk (o + i) 4 cap _ rfl ?_ 9 Ybad.underlying9
      intro j hj
      have := HG (i + j) (by omega)
      rw [Nat.add_assoc, this]
      match j, hj with
      | 0, _ => rfl
      | 1, _ => rfl
      | 2, _ => rfl
      | 3, _ => rfl
    · show isLoss g i n = _
      have e : decide ((strOfNums [(g i : Int), (g (i + 1) : Int), (g (i + 2) : Int), (g (i + 3) : Int)]).toList = [108, 111, 115, 115]) = (decide (g i = 108) && (decide (g (i + 1) = 111) && (decide (g (i + 2) = 115) && decide (g (i + 3) = 115)))) := by
        have e0 : (strOfNums [(g i : Int), (g (i + 1) : Int), (g (i + 2) : Int), (g (i + 3) : Int)]).toList = [UInt8.ofNat (g i), UInt8.ofNat (g (i + 1)), UInt8.ofNat (g (i + 2)), UInt8.ofNat (g (i + 3))] := by
          rw [ByteArray.toList_eq, strOfNums_data]
          rfl
        rw [e0]
        have i0 := ofNat_inj (hb i (by omega)) (show 108 < 256 by omega)
        have i1 := ofNat_inj (hb (i + 1) (by omega)) (show 111 < 256 by omega)
        have i2 := ofNat_inj (hb (i + 2) (by omega)) (show 115 < 256 by omega)
        have i3 := ofNat_inj (hb (i + 3) (by omega)) (show 115 < 256 by omega)
        rw [Bool.eq_iff_iff]
        simp only [decide_eq_true_eq, Bool.and_eq_true, List.cons.injEq, and_true]
        rw [← i0, ← i1, ← i2, ← i3]
        rfl
      unfold isLoss
      rw [e]
      simp [h4, Bool.and_assoc]
  · have e : isLoss g i n = false := by unfold isLoss; simp [h4]
    rw [e]
    exact has_short _ n c i w hn20 hi (by omega)

/-! ### readValue -/
def ret4f (x : Nat) (kd e : Int) (ok : Bool) : Ending := .returned (.tuple #[.float .f64 x, .int .i64 kd, .int .i64 e, .bool ok])

set_option maxHeartbeats 400000 in
theorem read_yes (bk o n c i x : Nat) (e : Int) (w : World) (hn20 : n ≤ 1048576) (hc : n ≤ c) (hi : i < n) (he0 : 0 ≤ e) (he : e ≤ 1048577)
    (H15 : Hid (Calls Ybad.prog 15 #[.slice (some ⟨bk, o + i, none⟩) (n - i) (c - i)] w fun y w' => y = .returned (.tuple #[.float .f64 x, .int .i64 e, .bool true]) ∧ w' = w)) :
    Calls Ybad.prog 7 #[.slice (some ⟨bk, o, none⟩) n c, .int .i64 (i : Nat)] w fun y w' => y = ret4f x 0 (i + e) true ∧ w' = w := by
  have hci : ¬ c = i := by omega
  go_enter Ybad.func7, Ybad.ntmps7
  go_wp2_with (go_at_call 15; refine H15.out.mono ?_; rintro e w' ⟨rfl, rfl⟩)
  refine bodyPost_ret (results4C rfl _ _ _) rfl ?_
  exact ⟨rfl, rfl⟩

set_option maxHeartbeats 400000 in
theorem read_missing (bk o n c i z : Nat) (w : World) (_hn20 : n ≤ 1048576) (hc : n ≤ c) (hi : i < n) (hz : isEnd z = true) (hcell : w.cell? ⟨bk, o + i, none⟩ = some (.int .u8 (z : Nat)))
    (H15 : Hid (Calls Ybad.prog 15 #[.slice (some ⟨bk, o + i, none⟩) (n - i) (c - i)] w fun y w' => y = .returned (.tuple #[.float .f64 0, .int .i64 0, .bool false]) ∧ w' = w)) :
    Calls Ybad.prog 7 #[.slice (some ⟨bk, o, none⟩) n c, .int .i64 (i : Nat)] w fun y w' => y = ret4f 0 1 i true ∧ w' = w := by
  have hci : ¬ c = i := by omega
  have hi' : (i : Int) < (n : Int) := by omega
  go_enter Ybad.func7, Ybad.ntmps7
  go_wp2_with (first
    | (go_at_call 15; refine H15.out.mono ?_; rintro e w' ⟨rfl, rfl⟩)
    | (go_at_call 16; refine (isFieldEnd_any _ _).mono ?_; rintro e w' ⟨rfl, rfl⟩))
  refine bodyPost_ret (results4C rfl _ _ _) rfl ?_
  exact ⟨rfl, rfl⟩

set_option maxHeartbeats 400000 in
theorem read_rest (bk o n c i z : Nat) (r : Bool) (w : World) (hn20 : n ≤ 1048576) (hc : n ≤ c) (hi : i < n) (hz : isEnd z = false) (hcell : w.cell? ⟨bk, o + i, none⟩ = some (.int .u8 (z : Nat)))
    (H15 : Hid (Calls Ybad.prog 15 #[.slice (some ⟨bk, o + i, none⟩) (n - i) (c - i)] w fun y w' => y = .returned (.tuple #[.float .f64 0, .int .i64 0, .bool false]) ∧ w' = w))
    (H17 : Hid (Calls Ybad.prog 17 #[.slice (some ⟨bk, o, none⟩) n c, .int .i64 (i : Nat), .string ⟨#[108, 111, 115, 115]⟩] w fun e w' => e = .returned (.bool r) ∧ w' = w)) (y : Ending)
    (HY : Hid (y = if r = true then ret4f 0 2 (i + 4) true else ret4f 0 0 0 false)) :
    Calls Ybad.prog 7 #[.slice (some ⟨bk, o, none⟩) n c, .int .i64 (i : Nat)] w fun e w' => e = y ∧ w' = w := by
  have hci : ¬ c = i := by omega
  have hi' : (i : Int) < (n : Int) := by omega
  cases r with
  | true =>
    go_enter Ybad.func7, Ybad.ntmps7
    go_wp2_with (first
      | (go_at_call 15; refine H15.out.mono ?_; rintro e w' ⟨rfl, rfl⟩)
      | (go_at_call 16; refine (isFieldEnd_any _ _).mono ?_; rintro e w' ⟨rfl, rfl⟩)
      | (go_at_call 17; refine H17.out.mono ?_; rintro e w' ⟨rfl, rfl⟩))
    refine bodyPost_ret (results4C rfl _ _ _) rfl ?_
    exact ⟨HY.out.symm, rfl⟩
  | false =>
    go_enter Ybad.func7, Ybad.ntmps7
    go_wp2_with (first
      | (go_at_call 15; refine H15.out.mono ?_; rintro e w' ⟨rfl, rfl⟩)
      | (go_at_call 16; refine (isFieldEnd_any _ _).mono ?_; rintro e w' ⟨rfl, rfl⟩)
      | (go_at_call 17; refine H17.out.mono ?_; rintro e w' ⟨rfl, rfl⟩))
    refine bodyPost_ret (results4C rfl _ _ _) rfl ?_
    exact ⟨HY.out.symm, rfl⟩

set_option maxHeartbeats 400000 in
theorem read_end (bk o n c : Nat) (w : World) (hn20 : n ≤ 1048576) (_hc : n ≤ c) :
    Calls Ybad.prog 7 #[.slice (some ⟨bk, o, none⟩) n c, .int .i64 (n : Nat)] w fun e w' => e = ret4f 0 0 0 false ∧ w' = w := by
  by_cases hcn : c = n
  all_goals
    go_enter Ybad.func7, Ybad.ntmps7
    go_wp2_with (first
      | (go_at_call 15; refine (cutShort_empty _ _ _).mono ?_; rintro e w' ⟨rfl, rfl⟩)
      | (go_at_call 17; refine (has_short _ _ _ _ _ ?_ ?_ ?_).mono ?_; omega; omega; omega; rintro e w' ⟨rfl, rfl⟩))
    refine bodyPost_ret (results4C rfl _ _ _) rfl ?_
    exact ⟨rfl, rfl⟩
end Go.Proofs.YbulkdwqcDoor
