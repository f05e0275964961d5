import Derived.Test.YbulkdwqcDoorWalkE
namespace Go.Proofs.YbulkdwqcDoor
open Go.RowKit PlainA PlainC

theorem shortDigits_any (bk o N c i0 T : Nat) (g : Nat → Nat) (w : World) (hi0 : i0 ≤ 1) (hN20 : N ≤ 1048576) (hT : i0 + T ≤ N)
    (HG : ∀ t, t < N - i0 → w.cell? ⟨bk, o + (i0 + t), none⟩ = some (.int .u8 (g t : Nat)))
    (HA : ∀ t, t < T → acc (nxt g t) (g t) = true) (HE : i0 + T = N ∨ acc (nxt g T) (g T) = false) :
    Calls Ybad.prog 22 #[.slice (some ⟨bk, o, none⟩) N c, .int .i64 (i0 : Int)] w fun e w' =>
      e = .returned (.tuple #[.int .u64 ((nxt g T).n : Nat), .int .i64 ((nxt g T).a : Nat), .int .i64 ((i0 : Int) + (T : Int)), .bool (okd (nxt g T).d)]) ∧ w' = w := by
  have hinv : ∀ t, t ≤ T → _ := fun t ht => inv g t (fun r hr => HA r (by omega))
  refine digits_walk bk o N c i0 T g (fun t => (nxt g t).n) (fun t => (nxt g t).d) (fun t => pt i0 t (nxt g t)) w hi0 hN20 hT HG ⟨rfl, rfl, rfl⟩ ?_ ?_ ?_ ?_ _ ?_ _ rfl
  · intro t ht
    obtain ⟨j1, j2, j3, j4, j5⟩ := hinv t ht
    refine ⟨j1, ?_⟩
    show pt i0 t (nxt g t) ≤ _
    unfold pt
    split <;> omega
  · intro t ht hd
    obtain ⟨j1, j2, j3, j4, j5⟩ := hinv t (by omega)
    have e : nxt g (t + 1) = stp (nxt g t) (g t) := rfl
    unfold stp at e
    rw [if_pos hd] at e
    show (nxt g (t + 1)).n = _ ∧ (nxt g (t + 1)).d = _ ∧ pt i0 (t + 1) (nxt g (t + 1)) = pt i0 t (nxt g t)
    rw [e]
    refine ⟨rfl, rfl, ?_⟩
    unfold pt
    by_cases hs : (nxt g t).s = true
    · have := j4 hs
      simp only [hs, if_true]
      omega
    · simp only [hs]
      simp
  · intro t ht hd
    obtain ⟨j1, j2, j3, j4, j5⟩ := hinv t (by omega)
    have ha := HA t ht
    have e : nxt g (t + 1) = stp (nxt g t) (g t) := rfl
    unfold stp at e
    rw [if_neg (by rw [hd]; simp)] at e
    unfold acc at ha
    rw [hd] at ha
    simp only [Bool.false_or, Bool.and_eq_true, decide_eq_true_eq, Bool.not_eq_true'] at ha
    show _ ∧ pt i0 t (nxt g t) = 0 ∧ (nxt g (t + 1)).n = _ ∧ (nxt g (t + 1)).d = _ ∧ pt i0 (t + 1) (nxt g (t + 1)) = _
    rw [e]
    have h0 := j3 ha.2
    refine ⟨ha.1, by unfold pt; rw [if_neg (by rw [ha.2]; simp)], rfl, rfl, ?_⟩
    unfold pt
    simp only [if_true]
    omega
  · rcases HE with h | h
    · exact .inl h
    · refine .inr ?_
      unfold acc at h
      simp only [Bool.or_eq_false_iff, Bool.and_eq_false_iff, decide_eq_false_iff_not, Bool.not_eq_false'] at h
      refine ⟨h.1, ?_⟩
      rcases h.2 with h2 | h2
      · exact .inl h2
      · refine .inr ?_
        obtain ⟨j1, j2, j3, j4, j5⟩ := hinv T (by omega)
        have := j4 h2
        show pt i0 T (nxt g T) ≠ 0
        unfold pt
        rw [if_pos h2]
        omega
  · obtain ⟨j1, j2, j3, j4, j5⟩ := hinv T (by omega)
    show (((nxt g T).a : Nat) : Int) = if pt i0 T (nxt g T) = 0 then 0 else ((i0 : Int) + (T : Int)) - (pt i0 T (nxt g T) : Nat)
    unfold pt
    by_cases hs : (nxt g T).s = true
    · have := j4 hs
      rw [if_pos hs, if_neg (by omega)]
      omega
    · have := j3 (by simpa using hs)
      rw [if_neg hs, if_pos rfl, this]
      rfl

set_option maxHeartbeats 400000 in
theorem shortDigits_empty (a : Option Addr) (c : Nat) (w : World) :
    Calls Ybad.prog 22 #[.slice a 0 c, .int .i64 0] w fun e w' => e = .returned (.tuple #[.int .u64 0, .int .i64 0, .int .i64 0, .bool false]) ∧ w' = w := by
  go_enter Ybad.func22, Ybad.ntmps22
  go_wp2_with fail
  go_loop [1, 4, 8, 9] (fun i n d p => i = .int .i64 0 ∧ n = .int .u64 0 ∧ d = .int .i64 0 ∧ p = .int .i64 0) (fun _ _ _ _ => 0)
  case atStart => exact ⟨rfl, rfl, rfl, rfl⟩
  case round =>
    obtain ⟨rfl, rfl, rfl, rfl⟩ := hrel
    go_wp2
    refine bodyPost_ret (results4C rfl _ _ _) rfl ?_
    exact ⟨rfl, rfl⟩

/-! ### cutShort -/
/-- the powers of ten, as the program's text lays them. -/
def tab : List Nat := [4607182418800017408, 4621819117588971520, 4636737291354636288, 4652007308841189376, 4666723172467343360, 4681608360884174848, 4696837146684686336, 4711630319722168320, 4726483295884279808, 4741671816366391296, 4756540486875873280, 4771362005757984768, 4786511204640096256, 4801453603149578240, 4816244402031689728, 4831355200913801216, 4846369599423283200, 4861130398305394688, 4876203697187506176, 4891288408196988160, 4906019910204099648, 4921056587992461136, 4936209963552724370]

/-- the quotient's bits. -/
def quo (n a : Nat) : Nat := if a = 0 then floatOfInt .f64 (n : Int) else (floatBits .quo .f64 (floatOfInt .f64 (n : Int)) (tab.getD a 0)).getD 0

def fin (neg : Bool) (x : Nat) : Nat := if neg = true then Op.negFloat .f64 x else x

set_option maxHeartbeats 400000 in
theorem cut_no (a : Option Addr) (N c n fr : Nat) (i0 e : Int) (w : World)
    (H23 : Hid (Calls Ybad.prog 23 #[.slice a N c, .int .i64 0] w fun e w' => e = .returned (.int .i64 i0) ∧ w' = w))
    (H22 : Hid (Calls Ybad.prog 22 #[.slice a N c, .int .i64 i0] w fun x w' => x = .returned (.tuple #[.int .u64 (n : Nat), .int .i64 (fr : Nat), .int .i64 e, .bool false]) ∧ w' = w)) :
    Calls Ybad.prog 15 #[.slice a N c] w fun x w' => x = .returned (.tuple #[.float .f64 0, .int .i64 0, .bool false]) ∧ w' = w := by
  go_enter Ybad.func15, Ybad.ntmps15
  go_wp2_with (first
    | (go_at_call 23; refine H23.out.mono ?_; rintro e w' ⟨rfl, rfl⟩)
    | (go_at_call 22; refine H22.out.mono ?_; rintro e w' ⟨rfl, rfl⟩))
  go_ret3
  exact ⟨rfl, rfl⟩

set_option maxHeartbeats 400000 in
theorem cut_zero_true (bk o N c n z : Nat) (i0 e : Int) (w : World) (hN : 1 ≤ N) (hz : ((z : Int) == 45) = true)
    (hcell : w.cell? ⟨bk, o, none⟩ = some (.int .u8 (z : Nat)))
    (H23 : Hid (Calls Ybad.prog 23 #[.slice (some ⟨bk, o, none⟩) N c, .int .i64 0] w fun e w' => e = .returned (.int .i64 i0) ∧ w' = w))
    (H22 : Hid (Calls Ybad.prog 22 #[.slice (some ⟨bk, o, none⟩) N c, .int .i64 i0] w fun x w' => x = .returned (.tuple #[.int .u64 (n : Nat), .int .i64 0, .int .i64 e, .bool true]) ∧ w' = w)) :
    Calls Ybad.prog 15 #[.slice (some ⟨bk, o, none⟩) N c] w fun x w' => x = .returned (.tuple #[.float .f64 (Op.negFloat .f64 (floatOfInt .f64 (n : Int))), .int .i64 e, .bool true]) ∧ w' = w := by
  have h0 : (0 : Int) < (N : Int) := by omega
  have hneg : ∀ (b : Nat) (w : World), (Op.unary .neg (.float .f64 b)).run Ybad.prog w = .ok (.float .f64 (Op.negFloat .f64 b)) w := fun _ _ => rfl
  go_enter Ybad.func15, Ybad.ntmps15
  go_wp2_with (first
    | (go_at_call 23; refine H23.out.mono ?_; rintro e w' ⟨rfl, rfl⟩)
    | (go_at_call 22; refine H22.out.mono ?_; rintro e w' ⟨rfl, rfl⟩))
  go_ret3
  exact ⟨rfl, rfl⟩

set_option maxHeartbeats 400000 in
theorem cut_frac_true (bk o N c n fr z y q : Nat) (i0 e : Int) (w : World) (hN : 1 ≤ N) (hfr : 0 < (fr : Int)) (hfr15 : (fr : Int) ≤ 15) (HQ : Hid (floatBits .quo .f64 (floatOfInt .f64 (n : Int)) y = some q)) (ht : w.cell? ⟨2, fr, none⟩ = some (.float .f64 y)) (hz : ((z : Int) == 45) = true)
    (hcell : w.cell? ⟨bk, o, none⟩ = some (.int .u8 (z : Nat)))
    (H23 : Hid (Calls Ybad.prog 23 #[.slice (some ⟨bk, o, none⟩) N c, .int .i64 0] w fun e w' => e = .returned (.int .i64 i0) ∧ w' = w))
    (H22 : Hid (Calls Ybad.prog 22 #[.slice (some ⟨bk, o, none⟩) N c, .int .i64 i0] w fun x w' => x = .returned (.tuple #[.int .u64 (n : Nat), .int .i64 (fr : Nat), .int .i64 e, .bool true]) ∧ w' = w)) :
    Calls Ybad.prog 15 #[.slice (some ⟨bk, o, none⟩) N c] w fun x w' => x = .returned (.tuple #[.float .f64 (Op.negFloat .f64 q), .int .i64 e, .bool true]) ∧ w' = w := by
  have h0 : (0 : Int) < (N : Int) := by omega
  have hneg : ∀ (b : Nat) (w : World), (Op.unary .neg (.float .f64 b)).run Ybad.prog w = .ok (.float .f64 (Op.negFloat .f64 b)) w := fun _ _ => rfl
  have hq := fun (w : World) => run_float_arith (P := Ybad.prog) w .quo 27 .f64 _ _ _ HQ.out
  go_enter Ybad.func15, Ybad.ntmps15
  go_wp2_with (first
    | (go_at_call 23; refine H23.out.mono ?_; rintro e w' ⟨rfl, rfl⟩)
    | (go_at_call 22; refine H22.out.mono ?_; rintro e w' ⟨rfl, rfl⟩))
  go_ret3
  exact ⟨rfl, rfl⟩

set_option maxHeartbeats 400000 in
theorem cut_zero_false (bk o N c n z : Nat) (i0 e : Int) (w : World) (hN : 1 ≤ N) (hz : ((z : Int) == 45) = false)
    (hcell : w.cell? ⟨bk, o, none⟩ = some (.int .u8 (z : Nat)))
    (H23 : Hid (Calls Ybad.prog 23 #[.slice (some ⟨bk, o, none⟩) N c, .int .i64 0] w fun e w' => e = .returned (.int .i64 i0) ∧ w' = w))
    (H22 : Hid (Calls Ybad.prog 22 #[.slice (some ⟨bk, o, none⟩) N c, .int .i64 i0] w fun x w' => x = .returned (.tuple #[.int .u64 (n : Nat), .int .i64 0, .int .i64 e, .bool true]) ∧ w' = w)) :
    Calls Ybad.prog 15 #[.slice (some ⟨bk, o, none⟩) N c] w fun x w' => x = .returned (.tuple #[.float .f64 (floatOfInt .f64 (n : Int)), .int .i64 e, .bool true]) ∧ w' = w := by
  have h0 : (0 : Int) < (N : Int) := by omega
  have hneg : ∀ (b : Nat) (w : World), (Op.unary .neg (.float .f64 b)).run Ybad.prog w = .ok (.float .f64 (Op.negFloat .f64 b)) w := fun _ _ => rfl
  go_enter Ybad.func15, Ybad.ntmps15
  go_wp2_with (first
    | (go_at_call 23; refine H23.out.mono ?_; rintro e w' ⟨rfl, rfl⟩)
    | (go_at_call 22; refine H22.out.mono ?_; rintro e w' ⟨rfl, rfl⟩))
  go_ret3
  exact ⟨rfl, rfl⟩

set_option maxHeartbeats 400000 in
theorem cut_frac_false (bk o N c n fr z y q : Nat) (i0 e : Int) (w : World) (hN : 1 ≤ N) (hfr : 0 < (fr : Int)) (hfr15 : (fr : Int) ≤ 15) (HQ : Hid (floatBits .quo .f64 (floatOfInt .f64 (n : Int)) y = some q)) (ht : w.cell? ⟨2, fr, none⟩ = some (.float .f64 y)) (hz : ((z : Int) == 45) = false)
    (hcell : w.cell? ⟨bk, o, none⟩ = some (.int .u8 (z : Nat)))
    (H23 : Hid (Calls Ybad.prog 23 #[.slice (some ⟨bk, o, none⟩) N c, .int .i64 0] w fun e w' => e = .returned (.int .i64 i0) ∧ w' = w))
    (H22 : Hid (Calls Ybad.prog 22 #[.slice (some ⟨bk, o, none⟩) N c, .int .i64 i0] w fun x w' => x = .returned (.tuple #[.int .u64 (n : Nat), .int .i64 (fr : Nat), .int .i64 e, .bool true]) ∧ w' = w)) :
    Calls Ybad.prog 15 #[.slice (some ⟨bk, o, none⟩) N c] w fun x w' => x = .returned (.tuple #[.float .f64 q, .int .i64 e, .bool true]) ∧ w' = w := by
  have h0 : (0 : Int) < (N : Int) := by omega
  have hneg : ∀ (b : Nat) (w : World), (Op.unary .neg (.float .f64 b)).run Ybad.prog w = .ok (.float .f64 (Op.negFloat .f64 b)) w := fun _ _ => rfl
  have hq := fun (w : World) => run_float_arith (P := Ybad.prog) w .quo 27 .f64 _ _ _ HQ.out
  go_enter Ybad.func15, Ybad.ntmps15
  go_wp2_with (first
    | (go_at_call 23; refine H23.out.mono ?_; rintro e w' ⟨rfl, rfl⟩)
    | (go_at_call 22; refine H22.out.mono ?_; rintro e w' ⟨rfl, rfl⟩))
  go_ret3
  exact ⟨rfl, rfl⟩

end Go.Proofs.YbulkdwqcDoor
