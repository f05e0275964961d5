import Derived.Test.YbulkdwqcDoorModelD
import Derived.Test.YbulkdwqcDoorModelE
namespace Go.Proofs.YbulkdwqcDoor
open Go.RowKit PlainA PlainC

/-- WHAT 'readValue' AND THE MODEL ANSWER at place i of n bytes g, where the scan takes T bytes behind the sign. -/
def rvY (g : Nat → Nat) (n i T : Nat) : Ending :=
  if okd (nxt (fun r => g (i + (sgn (g i) + r))) T).d = true then
    ret4f (fin (decide (g i = 45)) (quo (nxt (fun r => g (i + (sgn (g i) + r))) T).n (nxt (fun r => g (i + (sgn (g i) + r))) T).a)) 0 ((i : Int) + ((sgn (g i) : Nat) + (T : Int))) true
  else if isEnd (g i) = true then ret4f 0 1 i true
  else if isLoss g i n = true then ret4f 0 2 (i + 4) true else ret4f 0 0 0 false

/-- the scan's end. -/
def Ends (g : Nat → Nat) (n i T : Nat) : Prop :=
  sgn (g i) + T ≤ n - i ∧ (∀ t, t < T → acc (nxt (fun r => g (i + (sgn (g i) + r))) t) (g (i + (sgn (g i) + t))) = true) ∧ (sgn (g i) + T = n - i ∨ acc (nxt (fun r => g (i + (sgn (g i) + r))) T) (g (i + (sgn (g i) + T))) = false)

theorem sgn_le (z : Nat) : sgn z ≤ 1 := by unfold sgn; split <;> omega

theorem ends_ex (g : Nat → Nat) (n i : Nat) (hi : i < n) : ∃ T, Ends g n i T := by
  have := sgn_le (g i)
  obtain ⟨T, h1, h2, h3⟩ := stops (fun r => g (i + (sgn (g i) + r))) (n - i - sgn (g i))
  refine ⟨T, by omega, h2, ?_⟩
  rcases h3 with h3 | h3
  · exact .inl (by omega)
  · exact .inr h3

theorem readValue_any (bk o n c i T : Nat) (g : Nat → Nat) (w : World) (hn20 : n ≤ 1048576) (hc : n ≤ c) (hi : i < n) (hb : ∀ t, t < n → g t < 256)
    (HG : ∀ t, t < n → w.cell? ⟨bk, o + t, none⟩ = some (.int .u8 (g t : Nat))) (hP : PowAt w) (hT : Ends g n i T) :
    Calls Ybad.prog 7 #[.slice (some ⟨bk, o, none⟩) n c, .int .i64 (i : Nat)] w fun e w' => e = rvY g n i T ∧ w' = w := by
  obtain ⟨t1, t2, t3⟩ := hT
  have hs := sgn_le (g i)
  have HG' : ∀ t, t < n - i → w.cell? ⟨bk, o + i + t, none⟩ = some (.int .u8 (g (i + t) : Nat)) := by
    intro t ht
    rw [Nat.add_assoc]; exact HG _ (by omega)
  unfold rvY
  by_cases hok : okd (nxt (fun r => g (i + (sgn (g i) + r))) T).d = true
  · rw [if_pos hok]
    have := cutShort_yes bk (o + i) (n - i) (c - i) T (fun t => g (i + t)) w (by omega) (by omega) HG' hP t1 t2 t3 hok
    exact read_yes bk o n c i _ _ w hn20 hc hi (by omega) (by omega) this
  · rw [if_neg hok]
    have h15 := cutShort_no bk (o + i) (n - i) (c - i) T (fun t => g (i + t)) w (by omega) (by omega) HG' t1 t2 t3 (by simpa using hok)
    by_cases he : isEnd (g i) = true
    · rw [if_pos he]
      exact read_missing bk o n c i (g i) w hn20 hc hi he (HG i hi) h15
    · rw [if_neg he]
      exact read_rest bk o n c i (g i) (isLoss g i n) w hn20 hc hi (by simpa using he) (HG i hi) h15 (has_any bk o n c i g w hn20 hc (by omega) hb HG) _ rfl

theorem scan_of (h : Nat → Nat) (T N' : Nat) (hT : T ≤ N') (HA : ∀ t, t < T → acc (nxt h t) (h t) = true) (HE : T = N' ∨ acc (nxt h T) (h T) = false) :
    Scan h (fun t => (nxt h t).n) (fun t => (nxt h t).d) (fun t => (nxt h t).a) (fun t => (nxt h t).s) T N' := by
  have hinv : ∀ t, t ≤ T → _ := fun t ht => inv h t (fun r hr => HA r (by omega))
  refine ⟨⟨rfl, rfl, rfl, rfl⟩, fun t ht => ⟨(hinv t ht).1, (hinv t ht).2.1⟩, ?_, ?_, ?_⟩
  · intro t ht hd
    have e : nxt h (t + 1) = stp (nxt h t) (h t) := rfl
    unfold stp at e
    rw [if_pos hd] at e
    simp only [e, and_self]
  · intro t ht hd
    have ha := HA t ht
    have e : nxt h (t + 1) = stp (nxt h t) (h t) := rfl
    unfold stp at e
    rw [if_neg (by rw [hd]; simp)] at e
    unfold acc at ha
    rw [hd] at ha
    simp only [Bool.false_or, Bool.and_eq_true, decide_eq_true_eq, Bool.not_eq_true'] at ha
    simp only [e, ha, and_self]
  · by_cases hTN : T = N'
    · exact .inl hTN
    · refine .inr ⟨by omega, ?_⟩
      have h2 := HE.resolve_left hTN
      unfold acc at h2
      simp only [Bool.or_eq_false_iff, Bool.and_eq_false_iff, decide_eq_false_iff_not, Bool.not_eq_false'] at h2
      have hd := h2.1
      simp only [isDig, Bool.and_eq_false_iff, decide_eq_false_iff_not] at hd
      by_cases h46 : h T = 46
      · exact .inr (.inl ⟨h46, h2.2.resolve_left (by simp [h46])⟩)
      · by_cases hlo : 48 ≤ h T
        · exact .inr (.inr (by omega))
        · exact .inl ⟨by omega, h46⟩

theorem beq_of (z k : Nat) : ((z : Int) == (k : Int)) = decide (z = k) := by
  by_cases h : z = k
  · simp [h]
  · simp [h]; omega

theorem modelC_any (bk o n c i T : Nat) (g : Nat → Nat) (w : World) (hn20 : n ≤ 1048576) (hi : i < n)
    (HG : ∀ t, t < n → w.cell? ⟨bk, o + t, none⟩ = some (.int .u8 (g t : Nat))) (hT : Ends g n i T) :
    Calls Ybad.prog 8 #[.slice (some ⟨bk, o, none⟩) n c, .int .i64 (i : Nat)] w fun e w' => e = rvY g n i T ∧ w' = w := by
  obtain ⟨t1, t2, t3⟩ := hT
  have hs := sgn_le (g i)
  have hS := scan_of (fun r => g (i + (sgn (g i) + r))) T (n - i - sgn (g i)) (by omega) t2 (by rcases t3 with t3 | t3; exact .inl (by omega); exact .inr t3)
  have hinv := inv (fun r => g (i + (sgn (g i) + r))) T t2
  have b43 := beq_of (g i) 43
  have b45 := beq_of (g i) 45
  have HSg : ((g i : Int) == 43) = true ∧ ((g i : Int) == 45) = false ∧ ((i : Int) + (sgn (g i) : Nat)) = (i : Int) + 1 ∧ decide (g i = 45) = false ∨ ((g i : Int) == 43) = false ∧ ((g i : Int) == 45) = true ∧ ((i : Int) + (sgn (g i) : Nat)) = (i : Int) + 1 ∧ decide (g i = 45) = true ∨ ((g i : Int) == 43) = false ∧ ((g i : Int) == 45) = false ∧ ((i : Int) + (sgn (g i) : Nat)) = (i : Int) ∧ decide (g i = 45) = false := by
    by_cases h43 : g i = 43
    · refine .inl ⟨by rw [h43]; rfl, by rw [h43]; rfl, ?_, by simp [h43]⟩
      unfold sgn; rw [if_pos (.inl h43)]; rfl
    · by_cases h45 : g i = 45
      · refine .inr (.inl ⟨by rw [h45]; rfl, by rw [h45]; rfl, ?_, by simp [h45]⟩)
        unfold sgn; rw [if_pos (.inr h45)]; rfl
      · refine .inr (.inr ⟨by simp; omega, by simp; omega, ?_, by simp [h45]⟩)
        unfold sgn; rw [if_neg (by omega)]; simp
  have HC : ∀ t, t < n - i - sgn (g i) → w.cell? ⟨bk, o + (((i : Int) + (sgn (g i) : Nat)) + (t : Int)).toNat, none⟩ = some (.int .u8 (g (i + (sgn (g i) + t)) : Nat)) := by
    intro t ht
    have e : (((i : Int) + (sgn (g i) : Nat)) + (t : Int)).toNat = i + (sgn (g i) + t) := by omega
    rw [e]; exact HG _ (by omega)
  unfold rvY
  have eJ : (i : Int) + ((sgn (g i) : Nat) + (T : Int)) = ((i : Int) + (sgn (g i) : Nat)) + (T : Int) := by omega
  by_cases hok : okd (nxt (fun r => g (i + (sgn (g i) + r))) T).d = true
  · rw [if_pos hok, eJ]
    have hd := hok
    simp only [okd, Bool.and_eq_true, decide_eq_true_eq] at hd
    by_cases ha : (nxt (fun r => g (i + (sgn (g i) + r))) T).a = 0
    · have e : quo (nxt (fun r => g (i + (sgn (g i) + r))) T).n (nxt (fun r => g (i + (sgn (g i) + r))) T).a = floatOfInt .f64 ((nxt (fun r => g (i + (sgn (g i) + r))) T).n : Int) := by unfold quo; rw [if_pos ha]
      rw [e]
      exact modelC_ok0 bk o n c i T (n - i - sgn (g i)) (g i) _ _ _ _ _ _ _ w hn20 hi HSg (by omega) (HG i hi) (by omega) HC hS (by omega) (by omega) ha _ rfl
    · exact modelC_okF bk o n c i T (n - i - sgn (g i)) (g i) _ _ _ _ _ _ _ w hn20 hi HSg (by omega) (HG i hi) (by omega) HC hS (by omega) (by omega) (by omega) _ _ _ (fun w => pow_any _ w (by omega)) (quo_is _ _ (by omega) ha) rfl
  · rw [if_neg hok]
    refine modelC_no bk o n c i T (n - i - sgn (g i)) (g i) _ _ _ _ _ _ _ w hn20 hi HSg (by omega) (HG i hi) (by omega) HC hS (show okd _ = false by simpa using hok) _ (g (i + 1)) (g (i + 2)) (g (i + 3)) (g (i + 4))
      (fun h4 => ⟨HG _ (by omega), HG _ (by omega), HG _ (by omega), HG _ h4⟩) ?_
    by_cases he : isEnd (g i) = true
    · exact .inl ⟨he, if_pos he⟩
    · refine .inr ⟨by simpa using he, ?_⟩
      rw [if_neg he]
      by_cases h4 : i + 4 < n
      · refine .inr ⟨h4, ?_⟩
        have c0 := beq_of (g i) 108
        have c1 := beq_of (g (i + 1)) 111
        have c2 := beq_of (g (i + 2)) 115
        have c3 := beq_of (g (i + 3)) 115
        by_cases k0 : g i = 108
        · by_cases k1 : g (i + 1) = 111
          · by_cases k2 : g (i + 2) = 115
            · by_cases k3 : g (i + 3) = 115
              · cases k4 : isEnd (g (i + 4)) with
                | false => exact .inr (.inr (.inr (.inr (.inl ⟨c0.trans (by simp [k0]), c1.trans (by simp [k1]), c2.trans (by simp [k2]), c3.trans (by simp [k3]), rfl, if_neg (by simp [isLoss, k4])⟩))))
                | true => exact .inr (.inr (.inr (.inr (.inr ⟨c0.trans (by simp [k0]), c1.trans (by simp [k1]), c2.trans (by simp [k2]), c3.trans (by simp [k3]), rfl, if_pos (by simp [isLoss, h4, k0, k1, k2, k3, k4])⟩))))
              · exact .inr (.inr (.inr (.inl ⟨c0.trans (by simp [k0]), c1.trans (by simp [k1]), c2.trans (by simp [k2]), c3.trans (by simp [k3]), if_neg (by simp [isLoss, k3])⟩)))
            · exact .inr (.inr (.inl ⟨c0.trans (by simp [k0]), c1.trans (by simp [k1]), c2.trans (by simp [k2]), if_neg (by simp [isLoss, k2])⟩))
          · exact .inr (.inl ⟨c0.trans (by simp [k0]), c1.trans (by simp [k1]), if_neg (by simp [isLoss, k1])⟩)
        · exact .inl ⟨c0.trans (by simp [k0]), if_neg (by simp [isLoss, k0])⟩
      · exact .inl ⟨h4, if_neg (by simp [isLoss, h4])⟩

set_option maxHeartbeats 400000 in
theorem modelC_end (a : Option Addr) (n c : Nat) (w : World) (hn20 : n ≤ 1048576) :
    Calls Ybad.prog 8 #[.slice a n c, .int .i64 (n : Nat)] w fun e w' => e = ret4f 0 0 0 false ∧ w' = w := by
  have h4 : ¬ (n : Int) + 4 < (n : Int) := by omega
  go_enter Ybad.func8, Ybad.ntmps8
  go_wp2_with fail
  go_loop [8, 10, 11, 12, 13] (fun j n' d a s => j = .int .i64 (n : Nat) ∧ n' = .int .u64 0 ∧ d = .int .i64 0 ∧ a = .int .i64 0 ∧ s = .bool false) (fun _ _ _ _ _ => 0)
  case atStart => exact ⟨rfl, rfl, rfl, rfl, rfl⟩
  case round =>
    obtain ⟨rfl, rfl, rfl, rfl, rfl⟩ := hrel
    go_wp2
    refine bodyPost_ret (results4C rfl _ _ _) rfl ?_
    exact ⟨rfl, rfl⟩
end Go.Proofs.YbulkdwqcDoor
