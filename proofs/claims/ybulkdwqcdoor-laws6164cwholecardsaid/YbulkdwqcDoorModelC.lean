import Derived.Test.YbulkdwqcDoorWalkH
namespace Go.Proofs.YbulkdwqcDoor
open Go.RowKit PlainA PlainC

/-- THE SCAN AS SEQUENCES: the number, the digits, those behind the point, the point; T bytes are taken, from h 0 on, of N'. -/
structure Scan (h nn dd aa : Nat → Nat) (ss : Nat → Bool) (T N' : Nat) : Prop where
  start : nn 0 = 0 ∧ dd 0 = 0 ∧ aa 0 = 0 ∧ ss 0 = false
  bound : ∀ t, t ≤ T → dd t ≤ t ∧ aa t ≤ dd t
  dig : ∀ t, t < T → isDig (h t) = true → nn (t + 1) = (nn t * 10 + (h t - 48)) % 18446744073709551616 ∧ dd (t + 1) = dd t + 1 ∧ aa (t + 1) = (if ss t = true then aa t + 1 else aa t) ∧ ss (t + 1) = ss t
  point : ∀ t, t < T → isDig (h t) = false → h t = 46 ∧ ss t = false ∧ nn (t + 1) = nn t ∧ dd (t + 1) = dd t ∧ aa (t + 1) = aa t ∧ ss (t + 1) = true
  stop : T = N' ∨ (T < N' ∧ ((h T < 48 ∧ h T ≠ 46) ∨ (h T = 46 ∧ ss T = true) ∨ 57 < h T))

theorem ret4f_of {x x' : Nat} {k e e' : Int} {ok : Bool} (h1 : x = x') (h2 : e = e') : Ending.returned (.tuple #[.float .f64 x, .int .i64 k, .int .i64 e, .bool ok]) = ret4f x' k e' ok := by
  rw [h1, h2]; rfl

set_option maxHeartbeats 4000000 in
theorem modelC_ok0 (bk o n c i T N' z : Nat) (h nn dd aa : Nat → Nat) (ss : Nat → Bool) (J : Int) (NEG : Bool) (w : World) (hn20 : n ≤ 1048576) (hi : i < n)
    (HSg : Hid (((z : Int) == 43) = true ∧ ((z : Int) == 45) = false ∧ J = (i : Int) + 1 ∧ NEG = false ∨ ((z : Int) == 43) = false ∧ ((z : Int) == 45) = true ∧ J = (i : Int) + 1 ∧ NEG = true ∨ ((z : Int) == 43) = false ∧ ((z : Int) == 45) = false ∧ J = (i : Int) ∧ NEG = false))
    (hJ : J + (N' : Int) = (n : Int)) (hz : w.cell? ⟨bk, o + i, none⟩ = some (.int .u8 (z : Nat))) (hTN : T ≤ N')
    (HC : Hid (∀ t, t < N' → w.cell? ⟨bk, o + (J + (t : Int)).toNat, none⟩ = some (.int .u8 (h t : Nat))))
    (S : Hid (Scan h nn dd aa ss T N')) (hd1 : 1 ≤ (dd T : Int)) (hd15 : (dd T : Int) ≤ 15) (ha0 : Hid (aa T = 0)) (x : Nat) (HX : Hid (x = fin NEG (floatOfInt .f64 (nn T : Int)))) :
    Calls Ybad.prog 8 #[.slice (some ⟨bk, o, none⟩) n c, .int .i64 (i : Nat)] w fun e w' => e = ret4f x 0 (J + (T : Int)) true ∧ w' = w := by
  have hi' : (i : Int) < (n : Int) := by omega
  have hneg : ∀ (b : Nat) (w : World), (Op.unary .neg (.float .f64 b)).run Ybad.prog w = .ok (.float .f64 (Op.negFloat .f64 b)) w := fun _ _ => rfl
  have hJ0 : 0 ≤ J := by rcases HSg.out with ⟨_, _, e, _⟩ | ⟨_, _, e, _⟩ | ⟨_, _, e, _⟩ <;> omega
  rcases HSg.out with ⟨h43, h45, e1, e2⟩ | ⟨h43, h45, e1, e2⟩ | ⟨h43, h45, e1, e2⟩
  all_goals
    have E1 : Hid _ := e1
    have E2 : Hid _ := e2
    clear e1 e2 HSg
    go_enter Ybad.func8, Ybad.ntmps8
    go_wp2_with fail
    go_loop [8, 10, 11, 12, 13] (fun j n d a s => ∃ t : Nat, t ≤ T ∧ j = .int .i64 (J + (t : Int)) ∧ n = .int .u64 (nn t : Nat) ∧ d = .int .i64 (dd t : Nat) ∧ a = .int .i64 (aa t : Nat) ∧ s = .bool (ss t)) (fun j _ _ _ _ => n - (intOf j).toNat)
    case atStart => exact ⟨0, by omega, by rw [E1.out]; simp, by rw [S.out.start.1]; rfl, by rw [S.out.start.2.1]; rfl, by rw [S.out.start.2.2.1]; rfl, by rw [S.out.start.2.2.2]⟩
    case round =>
      obtain ⟨t, ht, rfl, rfl, rfl, rfl, rfl⟩ := hrel
      obtain ⟨b1, b2⟩ := S.out.bound t ht
      by_cases hlt : t < T
      · have hc := HC.out t (by omega)
        have hlt' : J + (t : Int) < (n : Int) := by omega
        cases hd : isDig (h t) with
        | true =>
          obtain ⟨z1, z2⟩ : 48 ≤ h t ∧ h t ≤ 57 := by simpa [isDig] using hd
          have HS : Hid _ := S.out.dig t hlt hd
          have z1' : (48 : Int) ≤ (h t : Int) := by omega
          have z2' : (h t : Int) ≤ 57 := by omega
          clear hd
          cases hss : ss t with
          | true =>
            go_wp2
            go_round
            case rel => exact ⟨t + 1, by omega, by go_num, by rw [HS.out.1]; exact int_of (step_n _ _ z1), by rw [HS.out.2.1]; go_num, by rw [HS.out.2.2.1, if_pos hss]; go_num, by rw [HS.out.2.2.2, hss]⟩
            case measure => simp [intOf]; omega
          | false =>
            go_wp2
            go_round
            case rel => exact ⟨t + 1, by omega, by go_num, by rw [HS.out.1]; exact int_of (step_n _ _ z1), by rw [HS.out.2.1]; go_num, by rw [HS.out.2.2.1, if_neg (by rw [hss]; simp)], by rw [HS.out.2.2.2, hss]⟩
            case measure => simp [intOf]; omega
        | false =>
          have HS : Hid _ := S.out.point t hlt hd
          have z46 : ((h t : Int) == 46) = true := by have := HS.out.1; simp; omega
          have z48 : ¬ (48 : Int) ≤ (h t : Int) := by have := HS.out.1; omega
          have hss : ss t = false := HS.out.2.1
          clear hd
          go_wp2
          go_round
          case rel => exact ⟨t + 1, by omega, by go_num, by rw [HS.out.2.2.1], by rw [HS.out.2.2.2.1], by rw [HS.out.2.2.2.2.1], by rw [HS.out.2.2.2.2.2]⟩
          case measure => simp [intOf]; omega
      · obtain rfl : t = T := by omega
        have HX' : Hid _ := HX.out
        have a0 : ¬ (0 : Int) < (aa t : Int) := by have := ha0.out; omega
        have hexit : (¬ J + (t : Int) < (n : Int)) ∨ (J + (t : Int) < (n : Int) ∧ ¬ (48 : Int) ≤ (h t : Int) ∧ ((h t : Int) == 46) = false) ∨ (J + (t : Int) < (n : Int) ∧ ¬ (48 : Int) ≤ (h t : Int) ∧ ((h t : Int) == 46) = true ∧ ss t = true) ∨ (J + (t : Int) < (n : Int) ∧ (48 : Int) ≤ (h t : Int) ∧ ¬ (h t : Int) ≤ 57 ∧ ((h t : Int) == 46) = false) := by
          rcases S.out.stop with e | ⟨e, e2 | e2 | e2⟩
          · exact .inl (by omega)
          · exact .inr (.inl ⟨by omega, by omega, by simp; omega⟩)
          · exact .inr (.inr (.inl ⟨by omega, by omega, by simp; omega, e2.2⟩))
          · exact .inr (.inr (.inr ⟨by omega, by omega, by omega, by simp; omega⟩))
        have HCT : Hid (J + (t : Int) < (n : Int) → w.cell? ⟨bk, o + (J + (t : Int)).toNat, none⟩ = some (.int .u8 (h t : Nat))) := fun hx => HC.out t (by omega)
        rcases hexit with x1 | ⟨x1, x2, x3⟩ | ⟨x1, x2, x3, x4⟩ | ⟨x1, x2, x3, x4⟩
        · go_wp2
          refine bodyPost_ret (results4C rfl _ _ _) rfl ?_
          exact ⟨ret4f_of (by rw [HX.out, E2.out]; first | rw [fin_true] | rw [fin_false]) rfl, rfl⟩
        all_goals
          have hc := HCT.out x1
          go_wp2
          refine bodyPost_ret (results4C rfl _ _ _) rfl ?_
          exact ⟨ret4f_of (by rw [HX.out, E2.out]; first | rw [fin_true] | rw [fin_false]) rfl, rfl⟩
end Go.Proofs.YbulkdwqcDoor
