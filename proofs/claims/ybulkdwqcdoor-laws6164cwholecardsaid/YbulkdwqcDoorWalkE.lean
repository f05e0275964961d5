import Derived.Test.YbulkdwqcDoorWalkD
namespace Go.Proofs.YbulkdwqcDoor
open Go.RowKit PlainA PlainC

theorem sd_ret {n n' f f' e e' : Int} {k k' : Bool} (h1 : n = n') (h2 : f = f') (h3 : e = e') (h4 : k = k') :
    Ending.returned (.tuple #[.int .u64 n, .int .i64 f, .int .i64 e, .bool k]) = .returned (.tuple #[.int .u64 n', .int .i64 f', .int .i64 e', .bool k']) := by
  rw [h1, h2, h3, h4]

theorem okd_int (d : Nat) : okd d = (decide (0 < (d : Int)) && decide ((d : Int) ≤ 15)) := by
  unfold okd
  congr 1 <;> (congr 1; apply propext; omega)

theorem step_n (n z : Nat) (h : 48 ≤ z) : IntKind.u64.wrap (IntKind.u64.wrap ((n : Int) * 10) + ((z : Int) - 48)) = (((n * 10 + (z - 48)) % 18446744073709551616 : Nat) : Int) := by
  rw [IntKind.wrap_u64, IntKind.wrap_u64]; omega

theorem int_of {k : IntKind} {a b : Int} (h : a = b) : Value.int k a = .int k b := by rw [h]

set_option maxHeartbeats 2000000 in
theorem digits_walk (bk o N c i0 T : Nat) (g nn dd pp : Nat → Nat) (w : World) (hi0 : i0 ≤ 1) (hN20 : N ≤ 1048576) (hT : i0 + T ≤ N)
    (HG : Hid (∀ t, t < N - i0 → w.cell? ⟨bk, o + (i0 + t), none⟩ = some (.int .u8 (g t : Nat))))
    (H0 : Hid (nn 0 = 0 ∧ dd 0 = 0 ∧ pp 0 = 0)) (HB : Hid (∀ t, t ≤ T → dd t ≤ t ∧ pp t ≤ i0 + t))
    (HD : Hid (∀ t, t < T → isDig (g t) = true → nn (t + 1) = (nn t * 10 + (g t - 48)) % 18446744073709551616 ∧ dd (t + 1) = dd t + 1 ∧ pp (t + 1) = pp t))
    (HP : Hid (∀ t, t < T → isDig (g t) = false → g t = 46 ∧ pp t = 0 ∧ nn (t + 1) = nn t ∧ dd (t + 1) = dd t ∧ pp (t + 1) = i0 + t + 1))
    (HE : Hid (i0 + T = N ∨ (isDig (g T) = false ∧ (g T ≠ 46 ∨ pp T ≠ 0)))) (fr : Int) (HF : Hid (fr = if pp T = 0 then 0 else ((i0 : Int) + (T : Int)) - (pp T : Nat))) (ob : Bool) (HO : Hid (ob = okd (dd T))) :
    Calls Ybad.prog 22 #[.slice (some ⟨bk, o, none⟩) N c, .int .i64 (i0 : Int)] w fun e w' =>
      e = .returned (.tuple #[.int .u64 (nn T : Nat), .int .i64 fr, .int .i64 ((i0 : Int) + (T : Int)), .bool ob]) ∧ w' = w := by
  go_enter Ybad.func22, Ybad.ntmps22
  go_wp2_with fail
  go_loop [1, 4, 8, 9] (fun i n d p => ∃ t : Nat, t ≤ T ∧ i = .int .i64 ((i0 : Int) + (t : Int)) ∧ n = .int .u64 (nn t : Nat) ∧ d = .int .i64 (dd t : Nat) ∧ p = .int .i64 (pp t : Nat)) (fun i _ _ _ => N - (intOf i).toNat)
  case atStart => exact ⟨0, by omega, by simp, by rw [H0.out.1]; rfl, by rw [H0.out.2.1]; rfl, by rw [H0.out.2.2]; rfl⟩
  case round =>
    obtain ⟨t, ht, rfl, rfl, rfl, rfl⟩ := hrel
    obtain ⟨b1, b2⟩ := HB.out t ht
    by_cases hlt : t < T
    · have hc := HG.out t (by omega)
      have hlt' : (i0 : Int) + (t : Int) < (N : Int) := by omega
      cases hd : isDig (g t) with
      | true =>
        obtain ⟨z1, z2⟩ : 48 ≤ g t ∧ g t ≤ 57 := by simpa [isDig] using hd
        have HS : Hid _ := HD.out t hlt hd
        have z1' : (48 : Int) ≤ (g t : Int) := by omega
        have z2' : (g t : Int) ≤ 57 := by omega
        go_wp2_with (go_at_call 24; refine (isDigit_any _ _).mono ?_; rintro e w' ⟨rfl, rfl⟩)
        go_round
        case rel => exact ⟨t + 1, by omega, by go_num, by rw [HS.out.1]; exact int_of (step_n _ _ z1), by rw [HS.out.2.1]; go_num, by rw [HS.out.2.2]⟩
        case measure => simp [intOf]; omega
      | false =>
        have HS : Hid _ := HP.out t hlt hd
        have z46 : ((g t : Int) == 46) = true := by have := HS.out.1; simp; omega
        have p0 : ((pp t : Int) == 0) = true := by have := HS.out.2.1; simp; omega
        go_wp2_with (go_at_call 24; refine (isDigit_any _ _).mono ?_; rintro e w' ⟨rfl, rfl⟩)
        go_round
        case rel => exact ⟨t + 1, by omega, by go_num, by rw [HS.out.2.2.1], by rw [HS.out.2.2.2.1], by rw [HS.out.2.2.2.2]; go_num⟩
        case measure => simp [intOf]; omega
    · obtain rfl : t = T := by omega
      have HO' : Hid (ob = (decide (0 < (dd t : Int)) && decide ((dd t : Int) ≤ 15))) := HO.out.trans (okd_int _)
      by_cases hE : i0 + t = N
      · have hend : ¬ (i0 : Int) + (t : Int) < (N : Int) := by omega
        have HEN : Hid (i0 + t = N) := hE
        clear hE HE
        by_cases hp : pp t = 0
        · have HF' : Hid (fr = 0) := HF.out.trans (if_pos hp)
          have hp'' : ¬ (0 : Int) < (pp t : Int) := by omega
          clear hp
          go_wp2
          all_goals
            refine bodyPost_ret (results4C rfl _ _ _) rfl ?_
            exact ⟨sd_ret rfl HF'.out.symm rfl (by rw [HO'.out]; simp [*]), rfl⟩
        · have HF' : Hid (fr = ((i0 : Int) + (t : Int)) - (pp t : Nat)) := HF.out.trans (if_neg hp)
          have hp'' : (0 : Int) < (pp t : Int) := by omega
          go_wp2
          all_goals
            refine bodyPost_ret (results4C rfl _ _ _) rfl ?_
            exact ⟨sd_ret rfl HF'.out.symm rfl (by rw [HO'.out]; simp [*]), rfl⟩
      · have hE3 := HE.out.resolve_left hE
        obtain ⟨hd, hE2⟩ := hE3
        have hc := HG.out t (by omega)
        have hlt' : (i0 : Int) + (t : Int) < (N : Int) := by omega
        by_cases hp : pp t = 0
        · have HF' : Hid (fr = 0) := HF.out.trans (if_pos hp)
          have hp'' : ¬ (0 : Int) < (pp t : Int) := by omega
          have z46 : ((g t : Int) == 46) = false := by
            rcases hE2 with h | h
            · simp; omega
            · exact absurd hp h
          clear hp hE2 HE
          go_wp2_with (go_at_call 24; refine (isDigit_any _ _).mono ?_; rintro e w' ⟨rfl, rfl⟩)
          all_goals
            refine bodyPost_ret (results4C rfl _ _ _) rfl ?_
            exact ⟨sd_ret rfl HF'.out.symm rfl (by rw [HO'.out]; simp [*]), rfl⟩
        · have HF' : Hid (fr = ((i0 : Int) + (t : Int)) - (pp t : Nat)) := HF.out.trans (if_neg hp)
          have hp'' : (0 : Int) < (pp t : Int) := by omega
          have hp0 : ((pp t : Int) == 0) = false := by simp; omega
          clear hE2 HE
          cases z46 : ((g t : Int) == 46)
          all_goals
            go_wp2_with (go_at_call 24; refine (isDigit_any _ _).mono ?_; rintro e w' ⟨rfl, rfl⟩)
            all_goals
              refine bodyPost_ret (results4C rfl _ _ _) rfl ?_
              exact ⟨sd_ret rfl HF'.out.symm rfl (by rw [HO'.out]; simp [*]), rfl⟩
end Go.Proofs.YbulkdwqcDoor
