import Derived.Test.YbulkdwqcDoorWalkC
namespace Go.Proofs.YbulkdwqcDoor
open Go.RowKit PlainA

/-! ### plain facts -/
theorem lead_dig (l : List Nat) (j : Nat) (h : j < nlead l) : isDig (l.getD j 0) = true := by
  have hle := nlead_le l
  have hd := dig_nlead l (l.getD j 0) (by
    rw [List.getD_eq_getElem?_getD, List.getElem?_eq_getElem (by omega), Option.getD_some]
    rw [List.mem_take_iff_getElem]
    exact ⟨j, by omega, rfl⟩)
  simp only [isDig, hd.1, hd.2, decide_true, Bool.and_self]
theorem lead_end : ∀ (l : List Nat), nlead l < l.length → isDig (l.getD (nlead l) 0) = false
  | [], h => by simp at h
  | z :: r, h => by
    by_cases hz : isDig z = true
    · have e : nlead (z :: r) = nlead r + 1 := by simp [nlead, hz]
      rw [e] at h ⊢
      simpa using lead_end r (by simpa using h)
    · have e : nlead (z :: r) = 0 := by simp [nlead, hz]
      rw [e]
      simpa using hz
theorem isDig_bd {z : Nat} (h : isDig z = true) : 48 ≤ z ∧ z ≤ 57 := by simpa [isDig] using h

theorem dec_snoc (l : List Nat) (z : Nat) : dec (l ++ [z]) = dec l * 10 + (z - 48) := by simp [dec]
theorem dec_lt : ∀ (n : Nat) (l : List Nat), l.length = n → (∀ z ∈ l, 48 ≤ z ∧ z ≤ 57) → dec l < 10 ^ n
  | 0, l, h, _ => by rw [List.length_eq_zero_iff] at h; subst h; simp [dec]
  | n + 1, l, h, hd => by
    obtain ⟨r, z, rfl⟩ : ∃ r z, l = r ++ [z] := ⟨l.dropLast, l.getLast (by intro e; simp [e] at h), (List.dropLast_concat_getLast _).symm⟩
    have h1 : r.length = n := by simpa using h
    have := dec_lt n r h1 (fun y hy => hd y (by simp [hy]))
    have hz := hd z (by simp)
    rw [dec_snoc, Nat.pow_succ]
    omega

set_option maxHeartbeats 400000 in
theorem dig_any (z : Nat) (w : World) : Calls Ybad.prog 14 #[.int .u8 (z : Int)] w fun e w' => e = .returned (.bool (isDig z)) ∧ w' = w := by
  have e : isDig z = (decide (48 ≤ (z : Int)) && decide ((z : Int) ≤ 57)) := by
    unfold isDig; congr 1 <;> (congr 1; apply propext; omega)
  rw [e]
  clear e
  by_cases h1 : 48 ≤ (z : Int)
  all_goals by_cases h2 : (z : Int) ≤ 57
  all_goals
    go_enter Ybad.func14, Ybad.ntmps14
    go_wp2
    go_ret
    simp [h1, h2]

theorem take_snoc (l : List Nat) (t : Nat) (h : t < l.length) : l.take (t + 1) = l.take t ++ [l.getD t 0] := by
  rw [List.take_succ_eq_append_getElem h, List.getD_eq_getElem?_getD, List.getElem?_eq_getElem h, Option.getD_some]

/-! ### the model's walks: the eight bytes are 'g 0' .. 'g 7' -/
set_option maxHeartbeats 800000 in
theorem model_all (b off n c i : Nat) (g : Nat → Nat) (w : World) (hn : i + 8 ≤ n) (_hn20 : n ≤ 1048576) (hc : n ≤ c) (hm : c ≤ maxLen)
    (HD : Hid (∀ j, j < 8 → isDig (g j) = true)) (HCell : Hid (∀ j, j < 8 → w.cell? ⟨b, off + i + j, none⟩ = some (.int .u8 (g j : Nat)))) :
    Calls Ybad.prog 6 #[.slice (some ⟨b, off, none⟩) n c, .int .i64 i] w fun e w' => e = ret4 0 0 0 false ∧ w' = w := by
  unfold maxLen at hm
  have hci : ¬ c = i := by omega
  have hi8 : (i : Int) ≤ i + 8 := by omega
  go_enter Ybad.func6, Ybad.ntmps6
  go_wp2_with fail
  simp only [Nat.add_sub_cancel_left]
  go_loop [9] (fun k => ∃ j : Nat, j ≤ 8 ∧ k = .int .i64 j) (fun k => 8 - (intOf k).toNat)
  case atStart => exact ⟨0, by omega, rfl⟩
  case round =>
    obtain ⟨j, hj, rfl⟩ := hrel
    by_cases hlt : j < 8
    · have hd := HD.out j hlt
      have hc1 := HCell.out j hlt
      have hlt' : (j : Int) < 8 := by omega
      go_wp2_with (go_at_call 14; refine (dig_any _ _).mono ?_; rintro e w' ⟨rfl, rfl⟩)
      go_round
      case rel => exact ⟨j + 1, by omega, by go_num⟩
      case measure => simp [intOf]; omega
    · have hj8 : ((j : Int) == 8) = true := by simp; omega
      have hlt' : ¬ (j : Int) < 8 := by omega
      go_wp2_with (go_at_call 14; refine (dig_any _ _).mono ?_; rintro e w' ⟨rfl, rfl⟩)
      refine bodyPost_ret (results_tmp4 rfl _ _ _) rfl ?_
      exact ⟨ret4_of rfl rfl rfl, rfl⟩

set_option maxHeartbeats 800000 in
theorem model_C0 (b off n c i k : Nat) (g D : Nat → Nat) (w : World) (hn : i + 8 ≤ n) (_hn20 : n ≤ 1048576) (hc : n ≤ c) (hm : c ≤ maxLen) (hk : k < 8) (hk0 : Hid (k = 0))
    (HD : Hid (∀ j, j < k → isDig (g j) = true)) (HE : isDig (g k) = false) (HP : ((g k : Int) == 46) = false)
    (HV : Hid (D 0 = 0 ∧ (∀ t, t < k → D (t + 1) = D t * 10 + (g t - 48)) ∧ ∀ t, t ≤ k → D t ≤ 99999999))
    (HCell : Hid (∀ j, j < 8 → w.cell? ⟨b, off + i + j, none⟩ = some (.int .u8 (g j : Nat)))) :
    Calls Ybad.prog 6 #[.slice (some ⟨b, off, none⟩) n c, .int .i64 i] w fun e w' => e = ret4 0 0 0 false ∧ w' = w := by
  unfold maxLen at hm
  have hci : ¬ c = i := by omega
  have hi8 : (i : Int) ≤ i + 8 := by omega
  go_enter Ybad.func6, Ybad.ntmps6
  go_wp2_with fail
  simp only [Nat.add_sub_cancel_left]
  go_loop [9] (fun k' => ∃ j : Nat, j ≤ k ∧ k' = .int .i64 j) (fun k => 8 - (intOf k).toNat)
  case atStart => exact ⟨0, by omega, rfl⟩
  case round =>
    obtain ⟨j, hj, rfl⟩ := hrel
    by_cases hlt : j < k
    · have hd := HD.out j hlt
      have hc1 := HCell.out j (by omega)
      have hlt' : (j : Int) < 8 := by omega
      go_wp2_with (go_at_call 14; refine (dig_any _ _).mono ?_; rintro e w' ⟨rfl, rfl⟩)
      go_round
      case rel => exact ⟨j + 1, by omega, by go_num⟩
      case measure => simp [intOf]; omega
    · obtain rfl : j = k := by omega
      have hj8 : ((j : Int) == 8) = false := by simp; omega
      have hc1 := HCell.out j (by omega)
      have hlt' : (j : Int) < 8 := by omega
      go_wp2_with (go_at_call 14; refine (dig_any _ _).mono ?_; rintro e w' ⟨rfl, rfl⟩)
      go_loop [10, 11] (fun v t' => ∃ t : Nat, t ≤ j ∧ t' = .int .i64 t ∧ v = .int .u64 (D t : Nat)) (fun _ t' => j - (intOf t').toNat)
      case atStart => exact ⟨0, by omega, rfl, by rw [HV.out.1]; rfl⟩
      case round =>
        obtain ⟨t, ht, rfl, rfl⟩ := hrel
        by_cases htlt : t < j
        · have hd := isDig_bd (HD.out t htlt)
          have hct := HCell.out t (by omega)
          have hDt := HV.out.2.2 t (by omega)
          have HS : Hid (D (t + 1) = D t * 10 + (g t - 48)) := HV.out.2.1 t htlt
          obtain ⟨hd1, hd2⟩ := hd
          have hd1' : (48 : Int) ≤ g t := by omega
          have hd2' : (g t : Int) ≤ 57 := by omega
          go_wp2
          go_round
          case rel => exact ⟨t + 1, by omega, by go_num, by rw [HS.out]; go_num⟩
          case measure => simp [intOf]; omega
        · obtain rfl : t = j := by omega
          have hk0' : ((t : Int) == 0) = true := by have := hk0.out; simp; omega
          go_wp2
          refine bodyPost_ret (results_tmp4 rfl _ _ _) rfl ?_
          exact ⟨ret4_of rfl rfl rfl, rfl⟩

set_option maxHeartbeats 800000 in
theorem model_C (b off n c i k : Nat) (g D : Nat → Nat) (w : World) (hn : i + 8 ≤ n) (_hn20 : n ≤ 1048576) (hc : n ≤ c) (hm : c ≤ maxLen) (hk : k < 8) (hk0 : ¬ k = 0)
    (HD : Hid (∀ j, j < k → isDig (g j) = true)) (HE : isDig (g k) = false) (HP : ((g k : Int) == 46) = false)
    (HV : Hid (D 0 = 0 ∧ (∀ t, t < k → D (t + 1) = D t * 10 + (g t - 48)) ∧ ∀ t, t ≤ k → D t ≤ 99999999))
    (HCell : Hid (∀ j, j < 8 → w.cell? ⟨b, off + i + j, none⟩ = some (.int .u8 (g j : Nat)))) :
    Calls Ybad.prog 6 #[.slice (some ⟨b, off, none⟩) n c, .int .i64 i] w fun e w' => e = ret4 (D k : Nat) 0 ((i : Int) + (k : Nat)) true ∧ w' = w := by
  unfold maxLen at hm
  have hci : ¬ c = i := by omega
  have hi8 : (i : Int) ≤ i + 8 := by omega
  go_enter Ybad.func6, Ybad.ntmps6
  go_wp2_with fail
  simp only [Nat.add_sub_cancel_left]
  go_loop [9] (fun k' => ∃ j : Nat, j ≤ k ∧ k' = .int .i64 j) (fun k => 8 - (intOf k).toNat)
  case atStart => exact ⟨0, by omega, rfl⟩
  case round =>
    obtain ⟨j, hj, rfl⟩ := hrel
    by_cases hlt : j < k
    · have hd := HD.out j hlt
      have hc1 := HCell.out j (by omega)
      have hlt' : (j : Int) < 8 := by omega
      go_wp2_with (go_at_call 14; refine (dig_any _ _).mono ?_; rintro e w' ⟨rfl, rfl⟩)
      go_round
      case rel => exact ⟨j + 1, by omega, by go_num⟩
      case measure => simp [intOf]; omega
    · obtain rfl : j = k := by omega
      have hj8 : ((j : Int) == 8) = false := by simp; omega
      have hc1 := HCell.out j (by omega)
      have hlt' : (j : Int) < 8 := by omega
      go_wp2_with (go_at_call 14; refine (dig_any _ _).mono ?_; rintro e w' ⟨rfl, rfl⟩)
      go_loop [10, 11] (fun v t' => ∃ t : Nat, t ≤ j ∧ t' = .int .i64 t ∧ v = .int .u64 (D t : Nat)) (fun _ t' => j - (intOf t').toNat)
      case atStart => exact ⟨0, by omega, rfl, by rw [HV.out.1]; rfl⟩
      case round =>
        obtain ⟨t, ht, rfl, rfl⟩ := hrel
        by_cases htlt : t < j
        · have hd := isDig_bd (HD.out t htlt)
          have hct := HCell.out t (by omega)
          have hDt := HV.out.2.2 t (by omega)
          have HS : Hid (D (t + 1) = D t * 10 + (g t - 48)) := HV.out.2.1 t htlt
          obtain ⟨hd1, hd2⟩ := hd
          have hd1' : (48 : Int) ≤ g t := by omega
          have hd2' : (g t : Int) ≤ 57 := by omega
          go_wp2
          go_round
          case rel => exact ⟨t + 1, by omega, by go_num, by rw [HS.out]; go_num⟩
          case measure => simp [intOf]; omega
        · obtain rfl : t = j := by omega
          have hk0' : ((t : Int) == 0) = false := by simp; omega
          go_wp2
          refine bodyPost_ret (results_tmp4 rfl _ _ _) rfl ?_
          exact ⟨ret4_of rfl rfl rfl, rfl⟩
set_option maxHeartbeats 800000 in
theorem model_B1 (b off n c i k m : Nat) (g D D2 : Nat → Nat) (w : World) (hn : i + 8 ≤ n) (_hn20 : n ≤ 1048576) (hc : n ≤ c) (hm : c ≤ maxLen) (hkm : k + 1 + m ≤ 8) (h8 : Hid (k + 1 + m = 8))
    (HD : Hid (∀ j, j < k → isDig (g j) = true)) (HE : isDig (g k) = false) (HP : g k = 46)
    (HD2 : Hid (∀ j, j < m → isDig (g (k + 1 + j)) = true))
    (HV : Hid (D 0 = 0 ∧ (∀ t, t < k → D (t + 1) = D t * 10 + (g t - 48)) ∧ ∀ t, t ≤ k → D t ≤ 99999999))
    (HV2 : Hid (D2 0 = D k ∧ (∀ t, t < m → D2 (t + 1) = D2 t * 10 + (g (k + 1 + t) - 48)) ∧ ∀ t, t ≤ m → D2 t ≤ 99999999))
    (HCell : Hid (∀ j, j < 8 → w.cell? ⟨b, off + i + j, none⟩ = some (.int .u8 (g j : Nat)))) :
    Calls Ybad.prog 6 #[.slice (some ⟨b, off, none⟩) n c, .int .i64 i] w fun e w' => e = ret4 0 0 0 false ∧ w' = w := by
  unfold maxLen at hm
  have hci : ¬ c = i := by omega
  have hi8 : (i : Int) ≤ i + 8 := by omega
  go_enter Ybad.func6, Ybad.ntmps6
  go_wp2_with fail
  simp only [Nat.add_sub_cancel_left]
  go_loop [9] (fun k' => ∃ j : Nat, j ≤ k ∧ k' = .int .i64 j) (fun k => 8 - (intOf k).toNat)
  case atStart => exact ⟨0, by omega, rfl⟩
  case round =>
    obtain ⟨j, hj, rfl⟩ := hrel
    by_cases hlt : j < k
    · have hd := HD.out j hlt
      have hc1 := HCell.out j (by omega)
      have hlt' : (j : Int) < 8 := by omega
      go_wp2_with (go_at_call 14; refine (dig_any _ _).mono ?_; rintro e w' ⟨rfl, rfl⟩)
      go_round
      case rel => exact ⟨j + 1, by omega, by go_num⟩
      case measure => simp [intOf]; omega
    · obtain rfl : j = k := by omega
      have hj8 : ((j : Int) == 8) = false := by simp; omega
      have hc1 := HCell.out j (by omega)
      have hlt' : (j : Int) < 8 := by omega
      go_wp2_with (go_at_call 14; refine (dig_any _ _).mono ?_; rintro e w' ⟨rfl, rfl⟩)
      go_loop [10, 11] (fun v t' => ∃ t : Nat, t ≤ j ∧ t' = .int .i64 t ∧ v = .int .u64 (D t : Nat)) (fun _ t' => j - (intOf t').toNat)
      case atStart => exact ⟨0, by omega, rfl, by rw [HV.out.1]; rfl⟩
      case round =>
        obtain ⟨t, ht, rfl, rfl⟩ := hrel
        by_cases htlt : t < j
        · have hd := isDig_bd (HD.out t htlt)
          have hct := HCell.out t (by omega)
          have hDt := HV.out.2.2 t (by omega)
          have HS : Hid (D (t + 1) = D t * 10 + (g t - 48)) := HV.out.2.1 t htlt
          obtain ⟨hd1, hd2⟩ := hd
          have hd1' : (48 : Int) ≤ g t := by omega
          have hd2' : (g t : Int) ≤ 57 := by omega
          go_wp2
          go_round
          case rel => exact ⟨t + 1, by omega, by go_num, by rw [HS.out]; go_num⟩
          case measure => simp [intOf]; omega
        · obtain rfl : t = j := by omega
          have hct := HCell.out t (by omega)
          rw [HP] at hct
          go_wp2
          go_loop [15] (fun m' => ∃ j : Nat, j ≤ m ∧ m' = .int .i64 j) (fun m' => 8 - (intOf m').toNat)
          case atStart => exact ⟨0, by omega, rfl⟩
          case round =>
            obtain ⟨j, hj, rfl⟩ := hrel
            by_cases hjm : j < m
            · have hd := HD2.out j hjm
              have hcj := HCell.out (t + 1 + j) (by omega)
              have hlt' : (t : Int) + 1 + (j : Int) < 8 := by omega
              go_wp2_with (go_at_call 14; refine (dig_any _ _).mono ?_; rintro e w' ⟨rfl, rfl⟩)
              go_round
              case rel => exact ⟨j + 1, by omega, by go_num⟩
              case measure => simp [intOf]; omega
            · obtain rfl : j = m := by omega
              have hlt' : ¬ (t : Int) + 1 + (j : Int) < 8 := by have := h8.out; omega
              have h8' : ((t : Int) + 1 + (j : Int) == 8) = true := by have := h8.out; simp; omega
              go_wp2_with (go_at_call 14; refine (dig_any _ _).mono ?_; rintro e w' ⟨rfl, rfl⟩)
              refine bodyPost_ret (results_tmp4 rfl _ _ _) rfl ?_
              exact ⟨ret4_of rfl rfl rfl, rfl⟩

set_option maxHeartbeats 800000 in
theorem model_B20 (b off n c i k m : Nat) (g D D2 : Nat → Nat) (w : World) (hn : i + 8 ≤ n) (_hn20 : n ≤ 1048576) (hc : n ≤ c) (hm : c ≤ maxLen) (hkm : k + 1 + m < 8) (h00 : Hid (k + m = 0))
    (HD : Hid (∀ j, j < k → isDig (g j) = true)) (HE : isDig (g k) = false) (HP : g k = 46)
    (HD2 : Hid (∀ j, j < m → isDig (g (k + 1 + j)) = true))
    (HV : Hid (D 0 = 0 ∧ (∀ t, t < k → D (t + 1) = D t * 10 + (g t - 48)) ∧ ∀ t, t ≤ k → D t ≤ 99999999))
    (HE2 : isDig (g (k + 1 + m)) = false)
    (HV2 : Hid (D2 0 = D k ∧ (∀ t, t < m → D2 (t + 1) = D2 t * 10 + (g (k + 1 + t) - 48)) ∧ ∀ t, t ≤ m → D2 t ≤ 99999999))
    (HCell : Hid (∀ j, j < 8 → w.cell? ⟨b, off + i + j, none⟩ = some (.int .u8 (g j : Nat)))) :
    Calls Ybad.prog 6 #[.slice (some ⟨b, off, none⟩) n c, .int .i64 i] w fun e w' => e = ret4 0 0 0 false ∧ w' = w := by
  unfold maxLen at hm
  have hci : ¬ c = i := by omega
  have hi8 : (i : Int) ≤ i + 8 := by omega
  go_enter Ybad.func6, Ybad.ntmps6
  go_wp2_with fail
  simp only [Nat.add_sub_cancel_left]
  go_loop [9] (fun k' => ∃ j : Nat, j ≤ k ∧ k' = .int .i64 j) (fun k => 8 - (intOf k).toNat)
  case atStart => exact ⟨0, by omega, rfl⟩
  case round =>
    obtain ⟨j, hj, rfl⟩ := hrel
    by_cases hlt : j < k
    · have hd := HD.out j hlt
      have hc1 := HCell.out j (by omega)
      have hlt' : (j : Int) < 8 := by omega
      go_wp2_with (go_at_call 14; refine (dig_any _ _).mono ?_; rintro e w' ⟨rfl, rfl⟩)
      go_round
      case rel => exact ⟨j + 1, by omega, by go_num⟩
      case measure => simp [intOf]; omega
    · obtain rfl : j = k := by omega
      have hj8 : ((j : Int) == 8) = false := by simp; omega
      have hc1 := HCell.out j (by omega)
      have hlt' : (j : Int) < 8 := by omega
      go_wp2_with (go_at_call 14; refine (dig_any _ _).mono ?_; rintro e w' ⟨rfl, rfl⟩)
      go_loop [10, 11] (fun v t' => ∃ t : Nat, t ≤ j ∧ t' = .int .i64 t ∧ v = .int .u64 (D t : Nat)) (fun _ t' => j - (intOf t').toNat)
      case atStart => exact ⟨0, by omega, rfl, by rw [HV.out.1]; rfl⟩
      case round =>
        obtain ⟨t, ht, rfl, rfl⟩ := hrel
        by_cases htlt : t < j
        · have hd := isDig_bd (HD.out t htlt)
          have hct := HCell.out t (by omega)
          have hDt := HV.out.2.2 t (by omega)
          have HS : Hid (D (t + 1) = D t * 10 + (g t - 48)) := HV.out.2.1 t htlt
          obtain ⟨hd1, hd2⟩ := hd
          have hd1' : (48 : Int) ≤ g t := by omega
          have hd2' : (g t : Int) ≤ 57 := by omega
          go_wp2
          go_round
          case rel => exact ⟨t + 1, by omega, by go_num, by rw [HS.out]; go_num⟩
          case measure => simp [intOf]; omega
        · obtain rfl : t = j := by omega
          have hct := HCell.out t (by omega)
          rw [HP] at hct
          go_wp2
          go_loop [15] (fun m' => ∃ j : Nat, j ≤ m ∧ m' = .int .i64 j) (fun m' => 8 - (intOf m').toNat)
          case atStart => exact ⟨0, by omega, rfl⟩
          case round =>
            obtain ⟨j, hj, rfl⟩ := hrel
            by_cases hjm : j < m
            · have hd := HD2.out j hjm
              have hcj := HCell.out (t + 1 + j) (by omega)
              have hlt' : (t : Int) + 1 + (j : Int) < 8 := by omega
              go_wp2_with (go_at_call 14; refine (dig_any _ _).mono ?_; rintro e w' ⟨rfl, rfl⟩)
              go_round
              case rel => exact ⟨j + 1, by omega, by go_num⟩
              case measure => simp [intOf]; omega
            · obtain rfl : j = m := by omega
              have hcj := HCell.out (t + 1 + j) (by omega)
              have hlt' : (t : Int) + 1 + (j : Int) < 8 := by omega
              have h8' : ((t : Int) + 1 + (j : Int) == 8) = false := by simp; omega
              go_wp2_with (go_at_call 14; refine (dig_any _ _).mono ?_; rintro e w' ⟨rfl, rfl⟩)
              go_loop [10, 16] (fun v t' => ∃ r : Nat, r ≤ j ∧ t' = .int .i64 r ∧ v = .int .u64 (D2 r : Nat)) (fun _ t' => j - (intOf t').toNat)
              case atStart => exact ⟨0, by omega, rfl, by rw [HV2.out.1]⟩
              case round =>
                obtain ⟨r, hr, rfl, rfl⟩ := hrel
                by_cases hrlt : r < j
                · have hd := isDig_bd (HD2.out r hrlt)
                  have hct2 := HCell.out (t + 1 + r) (by omega)
                  have hDt := HV2.out.2.2 r (by omega)
                  have HS : Hid (D2 (r + 1) = D2 r * 10 + (g (t + 1 + r) - 48)) := HV2.out.2.1 r hrlt
                  obtain ⟨hd1, hd2⟩ := hd
                  have hd1' : (48 : Int) ≤ g (t + 1 + r) := by omega
                  have hd2' : (g (t + 1 + r) : Int) ≤ 57 := by omega
                  go_wp2
                  go_round
                  case rel => exact ⟨r + 1, by omega, by go_num, by rw [HS.out]; go_num⟩
                  case measure => simp [intOf]; omega
                · obtain rfl : r = j := by omega
                  have h00' : ((t : Int) + (r : Int) == 0) = true := by have := h00.out; simp; omega
                  go_wp2
                  refine bodyPost_ret (results_tmp4 rfl _ _ _) rfl ?_
                  exact ⟨ret4_of rfl rfl rfl, rfl⟩

set_option maxHeartbeats 800000 in
theorem model_B2 (b off n c i k m : Nat) (g D D2 : Nat → Nat) (w : World) (hn : i + 8 ≤ n) (_hn20 : n ≤ 1048576) (hc : n ≤ c) (hm : c ≤ maxLen) (hkm : k + 1 + m < 8) (h00 : Hid (¬ k + m = 0))
    (HD : Hid (∀ j, j < k → isDig (g j) = true)) (HE : isDig (g k) = false) (HP : g k = 46)
    (HD2 : Hid (∀ j, j < m → isDig (g (k + 1 + j)) = true))
    (HV : Hid (D 0 = 0 ∧ (∀ t, t < k → D (t + 1) = D t * 10 + (g t - 48)) ∧ ∀ t, t ≤ k → D t ≤ 99999999))
    (HE2 : isDig (g (k + 1 + m)) = false)
    (HV2 : Hid (D2 0 = D k ∧ (∀ t, t < m → D2 (t + 1) = D2 t * 10 + (g (k + 1 + t) - 48)) ∧ ∀ t, t ≤ m → D2 t ≤ 99999999))
    (HCell : Hid (∀ j, j < 8 → w.cell? ⟨b, off + i + j, none⟩ = some (.int .u8 (g j : Nat)))) :
    Calls Ybad.prog 6 #[.slice (some ⟨b, off, none⟩) n c, .int .i64 i] w fun e w' => e = ret4 (D2 m : Nat) (m : Nat) ((i : Int) + (k : Nat) + (1 + (m : Nat))) true ∧ w' = w := by
  unfold maxLen at hm
  have hci : ¬ c = i := by omega
  have hi8 : (i : Int) ≤ i + 8 := by omega
  go_enter Ybad.func6, Ybad.ntmps6
  go_wp2_with fail
  simp only [Nat.add_sub_cancel_left]
  go_loop [9] (fun k' => ∃ j : Nat, j ≤ k ∧ k' = .int .i64 j) (fun k => 8 - (intOf k).toNat)
  case atStart => exact ⟨0, by omega, rfl⟩
  case round =>
    obtain ⟨j, hj, rfl⟩ := hrel
    by_cases hlt : j < k
    · have hd := HD.out j hlt
      have hc1 := HCell.out j (by omega)
      have hlt' : (j : Int) < 8 := by omega
      go_wp2_with (go_at_call 14; refine (dig_any _ _).mono ?_; rintro e w' ⟨rfl, rfl⟩)
      go_round
      case rel => exact ⟨j + 1, by omega, by go_num⟩
      case measure => simp [intOf]; omega
    · obtain rfl : j = k := by omega
      have hj8 : ((j : Int) == 8) = false := by simp; omega
      have hc1 := HCell.out j (by omega)
      have hlt' : (j : Int) < 8 := by omega
      go_wp2_with (go_at_call 14; refine (dig_any _ _).mono ?_; rintro e w' ⟨rfl, rfl⟩)
      go_loop [10, 11] (fun v t' => ∃ t : Nat, t ≤ j ∧ t' = .int .i64 t ∧ v = .int .u64 (D t : Nat)) (fun _ t' => j - (intOf t').toNat)
      case atStart => exact ⟨0, by omega, rfl, by rw [HV.out.1]; rfl⟩
      case round =>
        obtain ⟨t, ht, rfl, rfl⟩ := hrel
        by_cases htlt : t < j
        · have hd := isDig_bd (HD.out t htlt)
          have hct := HCell.out t (by omega)
          have hDt := HV.out.2.2 t (by omega)
          have HS : Hid (D (t + 1) = D t * 10 + (g t - 48)) := HV.out.2.1 t htlt
          obtain ⟨hd1, hd2⟩ := hd
          have hd1' : (48 : Int) ≤ g t := by omega
          have hd2' : (g t : Int) ≤ 57 := by omega
          go_wp2
          go_round
          case rel => exact ⟨t + 1, by omega, by go_num, by rw [HS.out]; go_num⟩
          case measure => simp [intOf]; omega
        · obtain rfl : t = j := by omega
          have hct := HCell.out t (by omega)
          rw [HP] at hct
          go_wp2
          go_loop [15] (fun m' => ∃ j : Nat, j ≤ m ∧ m' = .int .i64 j) (fun m' => 8 - (intOf m').toNat)
          case atStart => exact ⟨0, by omega, rfl⟩
          case round =>
            obtain ⟨j, hj, rfl⟩ := hrel
            by_cases hjm : j < m
            · have hd := HD2.out j hjm
              have hcj := HCell.out (t + 1 + j) (by omega)
              have hlt' : (t : Int) + 1 + (j : Int) < 8 := by omega
              go_wp2_with (go_at_call 14; refine (dig_any _ _).mono ?_; rintro e w' ⟨rfl, rfl⟩)
              go_round
              case rel => exact ⟨j + 1, by omega, by go_num⟩
              case measure => simp [intOf]; omega
            · obtain rfl : j = m := by omega
              have hcj := HCell.out (t + 1 + j) (by omega)
              have hlt' : (t : Int) + 1 + (j : Int) < 8 := by omega
              have h8' : ((t : Int) + 1 + (j : Int) == 8) = false := by simp; omega
              go_wp2_with (go_at_call 14; refine (dig_any _ _).mono ?_; rintro e w' ⟨rfl, rfl⟩)
              go_loop [10, 16] (fun v t' => ∃ r : Nat, r ≤ j ∧ t' = .int .i64 r ∧ v = .int .u64 (D2 r : Nat)) (fun _ t' => j - (intOf t').toNat)
              case atStart => exact ⟨0, by omega, rfl, by rw [HV2.out.1]⟩
              case round =>
                obtain ⟨r, hr, rfl, rfl⟩ := hrel
                by_cases hrlt : r < j
                · have hd := isDig_bd (HD2.out r hrlt)
                  have hct2 := HCell.out (t + 1 + r) (by omega)
                  have hDt := HV2.out.2.2 r (by omega)
                  have HS : Hid (D2 (r + 1) = D2 r * 10 + (g (t + 1 + r) - 48)) := HV2.out.2.1 r hrlt
                  obtain ⟨hd1, hd2⟩ := hd
                  have hd1' : (48 : Int) ≤ g (t + 1 + r) := by omega
                  have hd2' : (g (t + 1 + r) : Int) ≤ 57 := by omega
                  go_wp2
                  go_round
                  case rel => exact ⟨r + 1, by omega, by go_num, by rw [HS.out]; go_num⟩
                  case measure => simp [intOf]; omega
                · obtain rfl : r = j := by omega
                  have h00' : ((t : Int) + (r : Int) == 0) = false := by have := h00.out; simp; omega
                  go_wp2
                  refine bodyPost_ret (results_tmp4 rfl _ _ _) rfl ?_
                  exact ⟨ret4_of rfl rfl rfl, rfl⟩

end Go.Proofs.YbulkdwqcDoor
