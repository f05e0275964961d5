import Derived.Test.YbulkdwqcDoorWalkF
namespace Go.Proofs.YbulkdwqcDoor
open Go.RowKit PlainA PlainC

/-! ### floats -/
def isNum : Ieee.Datum → Bool
  | .number _ (_ + 1) _ => true
  | _ => false
theorem tab_num : ∀ a, a < 16 → isNum (Ieee.double.read (tab.getD a 0)) = true := by decide +kernel
theorem tab_mul : ∀ j, j < 15 → floatBits .mul .f64 (tab.getD j 0) 4621819117588971520 = some (tab.getD (j + 1) 0) := by decide +kernel

theorem infRung_eq : Ieee.double.infRung = 9218868437227405312 := by decide +kernel
theorem sign_eq : Ieee.double.signWeight = 9223372036854775808 := by decide +kernel

theorem nearest_le (f : Ieee.Format) (n : Nat) (p : Int) : f.nearest false n p ≤ f.infRung := by
  unfold Ieee.Format.nearest
  split
  · simp [Ieee.Format.word]
  · simp only [Ieee.Format.word]
    exact Nat.min_le_right _ _

theorem ofInt_near (k : FloatKind) (n : Nat) : floatOfInt k (n : Int) = k.format.nearest false n 0 := by
  unfold floatOfInt FloatKind.nearest FloatKind.encode Ieee.Format.write
  have h : decide ((n : Int) < 0) = false := by simp
  rw [Int.natAbs_natCast, h]

theorem ofInt_le (n : Nat) : floatOfInt .f64 (n : Int) ≤ 9218868437227405312 := by
  have h := nearest_le (FloatKind.format .f64) n 0
  rw [← ofInt_near] at h
  exact Nat.le_trans h (Nat.le_of_eq infRung_eq)

theorem read_fin (x : Nat) (hx : x ≤ 9218868437227405312) : (∃ s m p, Ieee.double.read x = .number s m p) ∨ ∃ s, Ieee.double.read x = .infinity s := by
  have hr : x % Ieee.double.signWeight = x := by rw [sign_eq]; exact Nat.mod_eq_of_lt (by omega)
  unfold Ieee.Format.read
  simp only [hr, infRung_eq]
  split
  · exact .inl ⟨_, _, _, rfl⟩
  split
  · exact .inl ⟨_, _, _, rfl⟩
  split
  · exact .inr ⟨_, rfl⟩
  · omega

theorem quo_some (n a : Nat) (ha : a < 16) : ∃ q, floatBits .quo .f64 (floatOfInt .f64 (n : Int)) (tab.getD a 0) = some q := by
  have hy := tab_num a ha
  generalize tab.getD a 0 = y at hy
  have hx := read_fin _ (ofInt_le n)
  generalize floatOfInt .f64 (n : Int) = x at hx
  show ∃ q, ((Ieee.double.read x).quotient _ (Ieee.double.read y)).map _ = some q
  cases h : Ieee.double.read y with
  | number s m p =>
    rw [h] at hy
    cases m with
    | zero => simp [isNum] at hy
    | succ m =>
      rcases hx with ⟨s', m', p', e⟩ | ⟨s', e⟩
      · rw [e]; simp [Ieee.Datum.quotient]
      · rw [e]; simp [Ieee.Datum.quotient]
  | infinity s => rw [h] at hy; simp [isNum] at hy
  | nan s f => rw [h] at hy; simp [isNum] at hy

theorem quo_is (n a : Nat) (ha : a < 16) (h0 : a ≠ 0) : floatBits .quo .f64 (floatOfInt .f64 (n : Int)) (tab.getD a 0) = some (quo n a) := by
  obtain ⟨q, hq⟩ := quo_some n a ha
  unfold quo
  rw [if_neg h0, hq]
  rfl

set_option maxHeartbeats 400000 in
theorem pow_walk (k : Nat) (pw : Nat → Nat) (w : World) (hk : k ≤ 15) (H0 : Hid (pw 0 = 4607182418800017408)) (HS : Hid (∀ j, j < k → floatBits .mul .f64 (pw j) 4621819117588971520 = some (pw (j + 1)))) :
    Calls Ybad.prog 18 #[.int .i64 (k : Nat)] w fun e w' => e = .returned (.float .f64 (pw k)) ∧ w' = w := by
  go_enter Ybad.func18, Ybad.ntmps18
  go_wp2_with fail
  go_loop [3, 4] (fun p j => ∃ t : Nat, t ≤ k ∧ j = .int .i64 (t : Nat) ∧ p = .float .f64 (pw t)) (fun _ j => k - (intOf j).toNat)
  case atStart => exact ⟨0, by omega, rfl, by rw [H0.out]⟩
  case round =>
    obtain ⟨t, ht, rfl, rfl⟩ := hrel
    by_cases hlt : t < k
    · have hq := fun (w : World) => run_float_arith (P := Ybad.prog) w .mul 27 .f64 _ _ _ (HS.out t hlt)
      have hlt' : (t : Int) < (k : Int) := by omega
      go_wp2
      go_round
      case rel => exact ⟨t + 1, by omega, by go_num, rfl⟩
      case measure => simp [intOf]; omega
    · obtain rfl : t = k := by omega
      go_wp2
      go_ret
      exact ⟨rfl, rfl⟩

theorem pow_any (k : Nat) (w : World) (hk : k ≤ 15) : Calls Ybad.prog 18 #[.int .i64 (k : Nat)] w fun e w' => e = .returned (.float .f64 (tab.getD k 0)) ∧ w' = w :=
  pow_walk k (fun j => tab.getD j 0) w hk rfl (fun j hj => tab_mul j (by omega))

/-! ### cutShort, whole -/
def PowAt (w : World) : Prop := ∀ j, j < 23 → w.cell? ⟨2, j, none⟩ = some (.float .f64 (tab.getD j 0))

theorem fin_true (x : Nat) : fin true x = Op.negFloat .f64 x := by unfold fin; rw [if_pos rfl]
theorem fin_false (x : Nat) : fin false x = x := by unfold fin; rw [if_neg (by simp)]

theorem cutShort_empty (a : Option Addr) (c : Nat) (w : World) :
    Calls Ybad.prog 15 #[.slice a 0 c] w fun x w' => x = .returned (.tuple #[.float .f64 0, .int .i64 0, .bool false]) ∧ w' = w :=
  cut_no a 0 c 0 0 0 0 w (sign_empty a c w) (shortDigits_empty a c w)

theorem cutShort_no (bk o N c T : Nat) (g : Nat → Nat) (w : World) (hN : 1 ≤ N) (hN20 : N ≤ 1048576) (HG : ∀ t, t < N → w.cell? ⟨bk, o + t, none⟩ = some (.int .u8 (g t : Nat)))
    (hT : sgn (g 0) + T ≤ N) (HA : ∀ t, t < T → acc (nxt (fun r => g (sgn (g 0) + r)) t) (g (sgn (g 0) + t)) = true) (HE : sgn (g 0) + T = N ∨ acc (nxt (fun r => g (sgn (g 0) + r)) T) (g (sgn (g 0) + T)) = false)
    (hok : okd (nxt (fun r => g (sgn (g 0) + r)) T).d = false) :
    Calls Ybad.prog 15 #[.slice (some ⟨bk, o, none⟩) N c] w fun x w' => x = .returned (.tuple #[.float .f64 0, .int .i64 0, .bool false]) ∧ w' = w := by
  have hs1 : sgn (g 0) ≤ 1 := by unfold sgn; split <;> omega
  have h22 := shortDigits_any bk o N c (sgn (g 0)) T (fun r => g (sgn (g 0) + r)) w hs1 hN20 hT (fun t ht => HG _ (by omega)) HA HE
  rw [hok] at h22
  exact cut_no _ N c _ _ _ _ w (sign_any bk o N c (g 0) w hN hN20 (by simpa using HG 0 (by omega))) h22

theorem cutShort_yes (bk o N c T : Nat) (g : Nat → Nat) (w : World) (hN : 1 ≤ N) (hN20 : N ≤ 1048576) (HG : ∀ t, t < N → w.cell? ⟨bk, o + t, none⟩ = some (.int .u8 (g t : Nat))) (hP : PowAt w)
    (hT : sgn (g 0) + T ≤ N) (HA : ∀ t, t < T → acc (nxt (fun r => g (sgn (g 0) + r)) t) (g (sgn (g 0) + t)) = true) (HE : sgn (g 0) + T = N ∨ acc (nxt (fun r => g (sgn (g 0) + r)) T) (g (sgn (g 0) + T)) = false)
    (hok : okd (nxt (fun r => g (sgn (g 0) + r)) T).d = true) :
    Calls Ybad.prog 15 #[.slice (some ⟨bk, o, none⟩) N c] w fun x w' => x = .returned (.tuple #[.float .f64 (fin (decide (g 0 = 45)) (quo (nxt (fun r => g (sgn (g 0) + r)) T).n (nxt (fun r => g (sgn (g 0) + r)) T).a)), .int .i64 ((sgn (g 0) : Nat) + (T : Int)), .bool true]) ∧ w' = w := by
  have hs1 : sgn (g 0) ≤ 1 := by unfold sgn; split <;> omega
  have h22 := shortDigits_any bk o N c (sgn (g 0)) T (fun r => g (sgn (g 0) + r)) w hs1 hN20 hT (fun t ht => HG _ (by omega)) HA HE
  have hc0 : w.cell? ⟨bk, o, none⟩ = some (.int .u8 (g 0 : Nat)) := by simpa using HG 0 (by omega)
  have h23 := sign_any bk o N c (g 0) w hN hN20 hc0
  obtain ⟨j1, j2, j3, j4, j5⟩ := inv (fun r => g (sgn (g 0) + r)) T HA
  rw [hok] at h22
  generalize nxt (fun r => g (sgn (g 0) + r)) T = X at *
  have ha16 : X.a < 16 := by
    simp only [okd, Bool.and_eq_true, decide_eq_true_eq] at hok
    omega
  by_cases ha : X.a = 0
  · rw [ha] at h22
    have e : quo X.n X.a = floatOfInt .f64 (X.n : Int) := by unfold quo; rw [if_pos ha]
    rw [e]
    by_cases hz : g 0 = 45
    · rw [show decide (g 0 = 45) = true by simp [hz], fin_true]
      exact cut_zero_true bk o N c X.n (g 0) _ _ w hN (by simp; omega) hc0 h23 h22
    · rw [show decide (g 0 = 45) = false by simp [hz], fin_false]
      exact cut_zero_false bk o N c X.n (g 0) _ _ w hN (by simp; omega) hc0 h23 h22
  · have hq := quo_is X.n X.a ha16 ha
    by_cases hz : g 0 = 45
    · rw [show decide (g 0 = 45) = true by simp [hz], fin_true]
      exact cut_frac_true bk o N c X.n X.a (g 0) (tab.getD X.a 0) _ _ _ w hN (by omega) (by omega) hq (hP _ (by omega)) (by simp; omega) hc0 h23 h22
    · rw [show decide (g 0 = 45) = false by simp [hz], fin_false]
      exact cut_frac_false bk o N c X.n X.a (g 0) (tab.getD X.a 0) _ _ _ w hN (by omega) (by omega) hq (hP _ (by omega)) (by simp; omega) hc0 h23 h22
end Go.Proofs.YbulkdwqcDoor
