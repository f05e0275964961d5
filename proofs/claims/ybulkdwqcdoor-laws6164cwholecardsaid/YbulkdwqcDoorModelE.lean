import Derived.Test.YbulkdwqcDoorModelC
import Derived.Deep.DeepCutAuto
import Derived.Deep.CutBlock
namespace Go.Proofs.YbulkdwqcDoor
open Go.RowKit PlainA PlainC

set_option maxRecDepth 20000 in
set_option maxHeartbeats 4000000 in
theorem modelC_no (bk o n c i T N' z : Nat) (h nn dd aa : Nat → Nat) (ss : Nat → Bool) (J : Int) (NEG : Bool) (w : World) (hn20 : n ≤ 1048576) (hi : i < n)
    (HSg : Hid (((z : Int) == 43) = true ∧ ((z : Int) == 45) = false ∧ J = (i : Int) + 1 ∧ NEG = false ∨ ((z : Int) == 43) = false ∧ ((z : Int) == 45) = true ∧ J = (i : Int) + 1 ∧ NEG = true ∨ ((z : Int) == 43) = false ∧ ((z : Int) == 45) = false ∧ J = (i : Int) ∧ NEG = false))
    (hJ : J + (N' : Int) = (n : Int)) (hz : w.cell? ⟨bk, o + i, none⟩ = some (.int .u8 (z : Nat))) (hTN : T ≤ N')
    (HC : Hid (∀ t, t < N' → w.cell? ⟨bk, o + (J + (t : Int)).toNat, none⟩ = some (.int .u8 (h t : Nat))))
    (S : Hid (Scan h nn dd aa ss T N')) (hok : Hid (okd (dd T) = false)) (Y : Ending) (z1 z2 z3 z4 : Nat)
    (HZ : Hid (i + 4 < n → w.cell? ⟨bk, o + (i + 1), none⟩ = some (.int .u8 (z1 : Nat)) ∧ w.cell? ⟨bk, o + (i + 2), none⟩ = some (.int .u8 (z2 : Nat)) ∧ w.cell? ⟨bk, o + (i + 3), none⟩ = some (.int .u8 (z3 : Nat)) ∧ w.cell? ⟨bk, o + (i + 4), none⟩ = some (.int .u8 (z4 : Nat))))
    (HL : Hid ((isEnd z = true ∧ Y = ret4f 0 1 i true) ∨ (isEnd z = false ∧ ((¬ i + 4 < n ∧ Y = ret4f 0 0 0 false) ∨ (i + 4 < n ∧ (
      (((z : Int) == 108) = false ∧ Y = ret4f 0 0 0 false) ∨
      (((z : Int) == 108) = true ∧ ((z1 : Int) == 111) = false ∧ Y = ret4f 0 0 0 false) ∨
      (((z : Int) == 108) = true ∧ ((z1 : Int) == 111) = true ∧ ((z2 : Int) == 115) = false ∧ Y = ret4f 0 0 0 false) ∨
      (((z : Int) == 108) = true ∧ ((z1 : Int) == 111) = true ∧ ((z2 : Int) == 115) = true ∧ ((z3 : Int) == 115) = false ∧ Y = ret4f 0 0 0 false) ∨
      (((z : Int) == 108) = true ∧ ((z1 : Int) == 111) = true ∧ ((z2 : Int) == 115) = true ∧ ((z3 : Int) == 115) = true ∧ isEnd z4 = false ∧ Y = ret4f 0 0 0 false) ∨
      (((z : Int) == 108) = true ∧ ((z1 : Int) == 111) = true ∧ ((z2 : Int) == 115) = true ∧ ((z3 : Int) == 115) = true ∧ isEnd z4 = true ∧ Y = ret4f 0 2 (i + 4) true))))))) :
    Calls Ybad.prog 8 #[.slice (some ⟨bk, o, none⟩) n c, .int .i64 (i : Nat)] w fun e w' => e = Y ∧ w' = w := by
  have hi' : (i : Int) < (n : Int) := by omega
  have hneg : ∀ (b : Nat) (w : World), (Op.unary .neg (.float .f64 b)).run Ybad.prog w = .ok (.float .f64 (Op.negFloat .f64 b)) w := fun _ _ => rfl
  have hJ0 : 0 ≤ J := by rcases HSg.out with ⟨_, _, e, _⟩ | ⟨_, _, e, _⟩ | ⟨_, _, e, _⟩ <;> omega
  rcases HSg.out with ⟨h43, h45, e1, e2⟩ | ⟨h43, h45, e1, e2⟩ | ⟨h43, h45, e1, e2⟩
  all_goals
    have E1 : Hid _ := e1
    have E2 : Hid _ := e2
    clear e1 e2 HSg
    go_enter Ybad.func8, Ybad.ntmps8
    go_upto_block 0 with fail
    go_cut [8, 10, 11, 12, 13, 14] (fun _ _ d _ _ _ w' => d = .int .i64 (dd T : Nat) ∧ w' = w)
    case first =>
      go_wp2_with fail
      go_loop [8, 10, 11, 12, 13] (fun j n d a s => ∃ t : Nat, t ≤ T ∧ j = .int .i64 (J + (t : Int)) ∧ n = .int .u64 (nn t : Nat) ∧ d = .int .i64 (dd t : Nat) ∧ a = .int .i64 (aa t : Nat) ∧ s = .bool (ss t)) (fun j _ _ _ _ => n - (intOf j).toNat)
      case atStart => exact ⟨0, by omega, by rw [E1.out]; simp, by rw [S.out.start.1]; rfl, by rw [S.out.start.2.1]; rfl, by rw [S.out.start.2.2.1]; rfl, by rw [S.out.start.2.2.2]⟩
      case round =>
        obtain ⟨t, ht, rfl, rfl, rfl, rfl, rfl⟩ := hrel
        obtain ⟨b1, b2⟩ := S.out.bound t ht
        by_cases hlt : t < T
        · have hc := HC.out t (by omega)
          have hlt' : J + (t : Int) < (n : Int) := by omega
          cases hd : isDig (h t) with
          | true =>
            obtain ⟨z1, z2⟩ : 48 ≤ h t ∧ h t ≤ 57 := by simpa [isDig] using hd
            have HS : Hid _ := S.out.dig t hlt hd
            have z1' : (48 : Int) ≤ (h t : Int) := by omega
            have z2' : (h t : Int) ≤ 57 := by omega
            clear hd
            cases hss : ss t with
            | true =>
              go_wp2
              go_round
              case rel => exact ⟨t + 1, by omega, by go_num, by rw [HS.out.1]; exact int_of (step_n _ _ z1), by rw [HS.out.2.1]; go_num, by rw [HS.out.2.2.1, if_pos hss]; go_num, by rw [HS.out.2.2.2, hss]⟩
              case measure => simp [intOf]; omega
            | false =>
              go_wp2
              go_round
              case rel => exact ⟨t + 1, by omega, by go_num, by rw [HS.out.1]; exact int_of (step_n _ _ z1), by rw [HS.out.2.1]; go_num, by rw [HS.out.2.2.1, if_neg (by rw [hss]; simp)], by rw [HS.out.2.2.2, hss]⟩
              case measure => simp [intOf]; omega
          | false =>
            have HS : Hid _ := S.out.point t hlt hd
            have z46 : ((h t : Int) == 46) = true := by have := HS.out.1; simp; omega
            have z48 : ¬ (48 : Int) ≤ (h t : Int) := by have := HS.out.1; omega
            have hss : ss t = false := HS.out.2.1
            clear hd
            go_wp2
            go_round
            case rel => exact ⟨t + 1, by omega, by go_num, by rw [HS.out.2.2.1], by rw [HS.out.2.2.2.1], by rw [HS.out.2.2.2.2.1], by rw [HS.out.2.2.2.2.2]⟩
            case measure => simp [intOf]; omega
        · obtain rfl : t = T := by omega
          have hexit : (¬ J + (t : Int) < (n : Int)) ∨ (J + (t : Int) < (n : Int) ∧ ¬ (48 : Int) ≤ (h t : Int) ∧ ((h t : Int) == 46) = false) ∨ (J + (t : Int) < (n : Int) ∧ ¬ (48 : Int) ≤ (h t : Int) ∧ ((h t : Int) == 46) = true ∧ ss t = true) ∨ (J + (t : Int) < (n : Int) ∧ (48 : Int) ≤ (h t : Int) ∧ ¬ (h t : Int) ≤ 57 ∧ ((h t : Int) == 46) = false) := by
            rcases S.out.stop with e | ⟨e, e2 | e2 | e2⟩
            · exact .inl (by omega)
            · exact .inr (.inl ⟨by omega, by omega, by simp; omega⟩)
            · exact .inr (.inr (.inl ⟨by omega, by omega, by simp; omega, e2.2⟩))
            · exact .inr (.inr (.inr ⟨by omega, by omega, by omega, by simp; omega⟩))
          have HCT : Hid (J + (t : Int) < (n : Int) → w.cell? ⟨bk, o + (J + (t : Int)).toNat, none⟩ = some (.int .u8 (h t : Nat))) := fun hx => HC.out t (by omega)
          rcases hexit with x1 | ⟨x1, x2, x3⟩ | ⟨x1, x2, x3, x4⟩ | ⟨x1, x2, x3, x4⟩
          · go_wp2
            go_meet
            case rel => exact ⟨rfl, rfl⟩
          all_goals
            have hc := HCT.out x1
            go_wp2
            go_meet
            case rel => exact ⟨rfl, rfl⟩
    case rest =>
      obtain ⟨rfl, rfl⟩ := hcut
      clear HC S E1 E2 hJ hJ0 hTN h43 h45 hneg
      have hdd : (¬ (1 : Int) ≤ (dd T : Int)) ∨ ((1 : Int) ≤ (dd T : Int) ∧ ¬ (dd T : Int) ≤ 15) := by
        have := hok.out
        simp only [okd, Bool.and_eq_false_iff, decide_eq_false_iff_not] at this
        omega
      rcases HL.out with ⟨l1, hE⟩ | ⟨l1, ⟨l2, hE⟩ | ⟨l2, ⟨l3, hE⟩ | ⟨l3, l4, hE⟩ | ⟨l3, l4, l5, hE⟩ | ⟨l3, l4, l5, l6, hE⟩ | ⟨l3, l4, l5, l6, l7, hE⟩ | ⟨l3, l4, l5, l6, l7, hE⟩⟩⟩
      · have HE : Hid _ := hE
        clear hE HL HZ hok
        rcases hdd with d1 | ⟨d1, d2⟩
        all_goals
          go_wp2_with (go_at_call 19; refine (cend_any _ _).mono ?_; rintro e w' ⟨rfl, rfl⟩)
          refine bodyPost_ret (results4C rfl _ _ _) rfl ?_
          exact ⟨HE.out.symm, rfl⟩
      · have HE : Hid _ := hE
        have l2' : ¬ (i : Int) + 4 < (n : Int) := by omega
        clear hE HL HZ hok
        rcases hdd with d1 | ⟨d1, d2⟩
        all_goals
          go_wp2_with (go_at_call 19; refine (cend_any _ _).mono ?_; rintro e w' ⟨rfl, rfl⟩)
          refine bodyPost_ret (results4C rfl _ _ _) rfl ?_
          exact ⟨HE.out.symm, rfl⟩
      all_goals
        have HE : Hid _ := hE
        have l2' : (i : Int) + 4 < (n : Int) := by omega
        obtain ⟨y1, y2, y3, y4⟩ := HZ.out l2
        clear hE HL HZ hok
        rcases hdd with d1 | ⟨d1, d2⟩
        all_goals
          go_wp2_with (go_at_call 19; refine (cend_any _ _).mono ?_; rintro e w' ⟨rfl, rfl⟩)
          refine bodyPost_ret (results4C rfl _ _ _) rfl ?_
          exact ⟨HE.out.symm, rfl⟩
end Go.Proofs.YbulkdwqcDoor
