import Derived.Test.YbulkdwqcDoorModelA
namespace Go.Proofs.YbulkdwqcDoor
open Go.RowKit PlainA

theorem dec_take (l : List Nat) (k : Nat) (hk : k ≤ l.length) (hk8 : k ≤ 8) (hd : ∀ z ∈ l.take k, 48 ≤ z ∧ z ≤ 57) :
    dec (l.take 0) = 0 ∧ (∀ t, t < k → dec (l.take (t + 1)) = dec (l.take t) * 10 + (l.getD t 0 - 48)) ∧ ∀ t, t ≤ k → dec (l.take t) ≤ 99999999 := by
  refine ⟨by simp [dec], fun t ht => by rw [take_snoc l t (by omega), dec_snoc], fun t ht => ?_⟩
  have h1 : (l.take t).length = t := by rw [List.length_take]; omega
  have h2 := dec_lt t (l.take t) h1 (fun z hz => hd z (by
    have : l.take t = (l.take k).take t := by rw [List.take_take]; congr 1; omega
    rw [this] at hz
    exact List.mem_of_mem_take hz))
  have h3 : 10 ^ t ≤ 10 ^ 8 := Nat.pow_le_pow_right (by omega) (by omega)
  omega

theorem model_any (b off n c i : Nat) (l : List Nat) (w : World) (hn : i + 8 ≤ n) (hn20 : n ≤ 1048576) (hc : n ≤ c) (hm : c ≤ maxLen) (hl : l.length = 8)
    (hcell : ∀ j, j < 8 → w.cell? ⟨b, off + i + j, none⟩ = some (.int .u8 (l.getD j 0 : Nat))) :
    Calls Ybad.prog 6 #[.slice (some ⟨b, off, none⟩) n c, .int .i64 i] w fun e w' => e = swEnd l i ∧ w' = w := by
  unfold swEnd
  by_cases hall : l.all isDig = true
  · rw [if_pos hall]
    exact model_all b off n c i (fun j => l.getD j 0) w hn hn20 hc hm (fun j hj => lead_dig l j (by rw [nlead_all l hall]; omega)) hcell
  · rw [if_neg hall]
    have hk := nlead_lt l (by simpa using hall)
    have HE := lead_end l hk
    have hdg := dig_nlead l
    rw [hl] at hk
    have HV := dec_take l (nlead l) (by omega) (by omega) hdg
    have HD : ∀ j, j < nlead l → isDig (l.getD j 0) = true := fun j hj => lead_dig l j hj
    by_cases hp : l.getD (nlead l) 0 = 46
    · rw [if_pos hp]
      have hle2 := nlead_le (l.drop (nlead l + 1))
      have hdg2 := dig_nlead (l.drop (nlead l + 1))
      have hgd : ∀ j, (l.drop (nlead l + 1)).getD j 0 = l.getD (nlead l + 1 + j) 0 := by
        intro j; simp [List.getD_eq_getElem?_getD]
      have HD2 : ∀ j, j < nlead (l.drop (nlead l + 1)) → isDig (l.getD (nlead l + 1 + j) 0) = true := by
        intro j hj; rw [← hgd]; exact lead_dig _ j hj
      have hlen : (l.take (nlead l)).length = nlead l := by rw [List.length_take]; omega
      have HV2 : dec (l.take (nlead l) ++ (l.drop (nlead l + 1)).take 0) = dec (l.take (nlead l)) ∧
          (∀ t, t < nlead (l.drop (nlead l + 1)) → dec (l.take (nlead l) ++ (l.drop (nlead l + 1)).take (t + 1)) = dec (l.take (nlead l) ++ (l.drop (nlead l + 1)).take t) * 10 + (l.getD (nlead l + 1 + t) 0 - 48)) ∧
          ∀ t, t ≤ nlead (l.drop (nlead l + 1)) → dec (l.take (nlead l) ++ (l.drop (nlead l + 1)).take t) ≤ 99999999 := by
        refine ⟨by simp, fun t ht => ?_, fun t ht => ?_⟩
        · rw [take_snoc _ t (by omega), ← List.append_assoc, dec_snoc, hgd]
        · have h1 : (l.take (nlead l) ++ (l.drop (nlead l + 1)).take t).length = nlead l + t := by
            rw [List.length_append, hlen, List.length_take]; omega
          have h2 := dec_lt _ _ h1 (fun z hz => by
            rw [List.mem_append] at hz
            rcases hz with hz | hz
            · exact hdg z hz
            · refine hdg2 z ?_
              have : (l.drop (nlead l + 1)).take t = ((l.drop (nlead l + 1)).take (nlead (l.drop (nlead l + 1)))).take t := by rw [List.take_take]; congr 1; omega
              rw [this] at hz
              exact List.mem_of_mem_take hz)
          rw [List.length_drop, hl] at hle2
          have h3 : 10 ^ (nlead l + t) ≤ 10 ^ 8 := Nat.pow_le_pow_right (by omega) (by omega)
          omega
      by_cases hall2 : (l.drop (nlead l + 1)).all isDig = true
      · rw [if_pos hall2]
        have h8 := nlead_all _ hall2
        rw [List.length_drop, hl] at h8 hle2
        exact model_B1 b off n c i (nlead l) (nlead (l.drop (nlead l + 1))) (fun j => l.getD j 0) (fun t => dec (l.take t)) (fun t => dec (l.take (nlead l) ++ (l.drop (nlead l + 1)).take t)) w hn hn20 hc hm
          (by omega) (show _ = _ by omega) HD HE hp HD2 HV HV2 hcell
      · rw [if_neg hall2]
        have hlt2 := nlead_lt (l.drop (nlead l + 1)) (by simpa using hall2)
        have HE2 := lead_end _ hlt2
        rw [hgd] at HE2
        rw [List.length_drop, hl] at hlt2
        by_cases h00 : nlead l + nlead (l.drop (nlead l + 1)) = 0
        · rw [if_pos h00]
          exact model_B20 b off n c i (nlead l) (nlead (l.drop (nlead l + 1))) (fun j => l.getD j 0) (fun t => dec (l.take t)) (fun t => dec (l.take (nlead l) ++ (l.drop (nlead l + 1)).take t)) w hn hn20 hc hm
            (by omega) h00 HD HE hp HD2 HV HE2 HV2 hcell
        · rw [if_neg h00]
          exact model_B2 b off n c i (nlead l) (nlead (l.drop (nlead l + 1))) (fun j => l.getD j 0) (fun t => dec (l.take t)) (fun t => dec (l.take (nlead l) ++ (l.drop (nlead l + 1)).take t)) w hn hn20 hc hm
            (by omega) h00 HD HE hp HD2 HV HE2 HV2 hcell
    · rw [if_neg hp]
      have hp' : ((l.getD (nlead l) 0 : Nat) : Int) ≠ 46 := by omega
      by_cases hk0 : nlead l = 0
      · rw [if_pos hk0]
        exact model_C0 b off n c i (nlead l) (fun j => l.getD j 0) (fun t => dec (l.take t)) w hn hn20 hc hm hk hk0 HD HE (by simpa using hp') HV hcell
      · rw [if_neg hk0]
        exact model_C b off n c i (nlead l) (fun j => l.getD j 0) (fun t => dec (l.take t)) w hn hn20 hc hm hk hk0 HD HE (by simpa using hp') HV hcell

set_option maxHeartbeats 400000 in
theorem model_short (a : Option Addr) (n c : Nat) (i : Int) (w : World) (hn20 : n ≤ 1048576) (hi : 0 ≤ i) (hi63 : i ≤ 9223372036854775807) (hs : (n : Int) - i < 8) :
    Calls Ybad.prog 6 #[.slice a n c, .int .i64 i] w fun e w' => e = ret4 0 0 0 false ∧ w' = w := by
  go_enter Ybad.func6, Ybad.ntmps6
  go_wp2
  refine bodyPost_ret (results_tmp4 rfl _ _ _) rfl ?_
  exact ⟨ret4_of rfl rfl rfl, rfl⟩
end Go.Proofs.YbulkdwqcDoor
