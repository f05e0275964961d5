import Derived.Test.YbulkdwqcDoorWalkA
namespace Go.Proofs.YbulkdwqcDoor
open Go.RowKit PlainA

theorem results_tmp4 {fn : Func} {t u v x : Tmp} (h : fn.results = #[.tmp t, .tmp u, .tmp v, .tmp x]) (tmps : Array Value) (P : Program) (w : World) :
    (results fn tmps).run P w = .ok (.tuple #[tmps.getD t undef, tmps.getD u undef, tmps.getD v undef, tmps.getD x undef]) w := by
  simp [results, h]

/-- four results. -/
def ret4 (n f e : Int) (ok : Bool) : Ending := .returned (.tuple #[.int .u64 n, .int .i64 f, .int .i64 e, .bool ok])
theorem ret4_of {n n' f f' e e' : Int} {ok : Bool} (h1 : n = n') (h2 : f = f') (h3 : e = e') : Ending.returned (.tuple #[.int .u64 n, .int .i64 f, .int .i64 e, .bool ok]) = ret4 n' f' e' ok := by
  rw [h1, h2, h3]; rfl

set_option maxHeartbeats 400000 in
theorem short_short (a : Option Addr) (n c : Nat) (i : Int) (w : World) (hn20 : n ≤ 1048576) (hi : 0 ≤ i) (hi63 : i ≤ 9223372036854775807) (hs : (n : Int) - i < 8) :
    Calls Ybad.prog 5 #[.slice a n c, .int .i64 i] w fun e w' => e = ret4 0 0 0 false ∧ w' = w := by
  go_enter Ybad.func5, Ybad.ntmps5
  go_wp2
  refine bodyPost_ret (results_tmp4 rfl _ _ _) rfl ?_
  exact ⟨ret4_of rfl rfl rfl, rfl⟩

set_option maxHeartbeats 400000 in
theorem short_A (b off n c i W M : Nat) (k : Nat) (w : World) (hn : i + 8 ≤ n) (hn20 : n ≤ 1048576) (hk : k = 8) 
    (H1 : Hid (Calls Ybad.prog 10 #[.slice (some ⟨b, off, none⟩) n c, .int .i64 i] w fun e w' => e = .returned (.int .u64 (W : Int)) ∧ Below w.heap.size w w'))
    (H2 : Hid (∀ w : World, Calls Ybad.prog 11 #[.int .u64 (W : Int)] w fun e w' => e = .returned (.int .u64 (M : Int)) ∧ w' = w))
    (H3 : Hid (∀ w1, Below w.heap.size w w1 → Calls Ybad.prog 12 #[.int .u64 (M : Int)] w1 fun e w' => e = .returned (.int .i64 (k : Int)) ∧ w' = w1)) :
    Calls Ybad.prog 5 #[.slice (some ⟨b, off, none⟩) n c, .int .i64 i] w fun e w' => e = ret4 0 0 0 false ∧ Below w.heap.size w w' := by
  have hk8 : ((k : Int) == 8) = true := by simp; omega
  clear hk
  go_enter Ybad.func5, Ybad.ntmps5
  go_wp2_with (first
    | (go_at_call 10; refine H1.out.mono ?_; rintro e w1 ⟨rfl, hb1⟩)
    | (go_at_call 11; refine (H2.out _).mono ?_; rintro e w' ⟨rfl, rfl⟩)
    | (go_at_call 12; refine (H3.out _ hb1).mono ?_; rintro e w' ⟨rfl, rfl⟩))
  refine bodyPost_ret (results_tmp4 rfl _ _ _) rfl ?_
  exact ⟨ret4_of rfl rfl rfl, hb1⟩

/-- 'bytesBelow', a name. -/
def bbI (x : Int) : Int := ((Lib.ctz 64 x.toNat / 8 : Nat) : Int)

/-- the nibbles and the three multiplications, as the walk spells them. -/
def numI (x : Int) : Int :=
  IntKind.u64.wrap (bits BinOp.and IntKind.u64 (IntKind.u64.wrap (bits BinOp.and IntKind.u64 (IntKind.u64.wrap (bits BinOp.and IntKind.u64 x 1085102592571150095 * 2561) / 256) 71777214294589695 * 6553601) / 65536) 281470681808895 * 42949672960001) / 4294967296

set_option maxHeartbeats 400000 in
theorem short_C0 (b off n c i W M z : Nat) (k : Nat) (w : World) (hn : i + 8 ≤ n) (hn20 : n ≤ 1048576) (hk : k = 0) (hz : z ≠ 46)
    (H1 : Hid (Calls Ybad.prog 10 #[.slice (some ⟨b, off, none⟩) n c, .int .i64 i] w fun e w' => e = .returned (.int .u64 (W : Int)) ∧ Below w.heap.size w w'))
    (H2 : Hid (∀ w : World, Calls Ybad.prog 11 #[.int .u64 (W : Int)] w fun e w' => e = .returned (.int .u64 (M : Int)) ∧ w' = w))
    (H3 : Hid (∀ w1, Below w.heap.size w w1 → Calls Ybad.prog 12 #[.int .u64 (M : Int)] w1 fun e w' => e = .returned (.int .i64 (k : Int)) ∧ w' = w1))
    (H4 : Hid (∀ w1, Below w.heap.size w w1 → w1.cell? ⟨b, off + (i + k), none⟩ = some (.int .u8 (z : Int)))) :
    Calls Ybad.prog 5 #[.slice (some ⟨b, off, none⟩) n c, .int .i64 i] w fun e w' => e = ret4 0 0 0 false ∧ Below w.heap.size w w' := by
  have hk8 : ((k : Int) == 8) = false := by simp; omega
  have hk00 : ((k : Int) == 0) = true := by simp; omega
  have hkb : k < 8 := by omega
  have hz46 : ((z : Int) == 46) = false := by simp; omega
  clear hz hk
  go_enter Ybad.func5, Ybad.ntmps5
  go_wp2_with (first
    | (go_at_call 10; refine H1.out.mono ?_; rintro e w1 ⟨rfl, hb1⟩; have hc1 := H4.out _ hb1)
    | (go_at_call 11; refine (H2.out _).mono ?_; rintro e w' ⟨rfl, rfl⟩)
    | (go_at_call 12; refine (H3.out _ hb1).mono ?_; rintro e w' ⟨rfl, rfl⟩))
  refine bodyPost_ret (results_tmp4 rfl _ _ _) rfl ?_
  exact ⟨ret4_of rfl rfl rfl, hb1⟩

set_option maxHeartbeats 400000 in
theorem short_C (b off n c i W M z : Nat) (k : Nat) (w : World) (hn : i + 8 ≤ n) (hn20 : n ≤ 1048576) (hk : k < 8) (hz : z ≠ 46) (hk0 : 1 ≤ k)
    (H1 : Hid (Calls Ybad.prog 10 #[.slice (some ⟨b, off, none⟩) n c, .int .i64 i] w fun e w' => e = .returned (.int .u64 (W : Int)) ∧ Below w.heap.size w w'))
    (H2 : Hid (∀ w : World, Calls Ybad.prog 11 #[.int .u64 (W : Int)] w fun e w' => e = .returned (.int .u64 (M : Int)) ∧ w' = w))
    (H3 : Hid (∀ w1, Below w.heap.size w w1 → Calls Ybad.prog 12 #[.int .u64 (M : Int)] w1 fun e w' => e = .returned (.int .i64 (k : Int)) ∧ w' = w1))
    (H4 : Hid (∀ w1, Below w.heap.size w w1 → w1.cell? ⟨b, off + (i + k), none⟩ = some (.int .u8 (z : Int)))) :
    Calls Ybad.prog 5 #[.slice (some ⟨b, off, none⟩) n c, .int .i64 i] w fun e w' => e = ret4 (numI (IntKind.u64.wrap (W * 2 ^ (64 - 8 * k)))) 0 (i + k) true ∧ Below w.heap.size w w' := by
  have hk8 : ((k : Int) == 8) = false := by simp; omega
  have hk00 : ((k : Int) == 0) = false := by simp; omega
  have hz46 : ((z : Int) == 46) = false := by simp; omega
  clear hz
  go_enter Ybad.func5, Ybad.ntmps5
  go_wp2_with (first
    | (go_at_call 10; refine H1.out.mono ?_; rintro e w1 ⟨rfl, hb1⟩; have hc1 := H4.out _ hb1)
    | (go_at_call 11; refine (H2.out _).mono ?_; rintro e w' ⟨rfl, rfl⟩)
    | (go_at_call 12; refine (H3.out _ hb1).mono ?_; rintro e w' ⟨rfl, rfl⟩))
  refine bodyPost_ret (results_tmp4 rfl _ _ _) rfl ?_
  exact ⟨ret4_of rfl rfl rfl, hb1⟩

set_option maxHeartbeats 400000 in
theorem short_B1 (b off n c i W M m : Nat) (k : Nat) (w : World) (hn : i + 8 ≤ n) (hn20 : n ≤ 1048576) (hk : k < 8) (hm : 7 ≤ m + k)
    (H1 : Hid (Calls Ybad.prog 10 #[.slice (some ⟨b, off, none⟩) n c, .int .i64 i] w fun e w' => e = .returned (.int .u64 (W : Int)) ∧ Below w.heap.size w w'))
    (H2 : Hid (∀ w : World, Calls Ybad.prog 11 #[.int .u64 (W : Int)] w fun e w' => e = .returned (.int .u64 (M : Int)) ∧ w' = w))
    (H3 : Hid (∀ w1 x, Below w.heap.size w w1 → (x = (M : Int) ∨ x = (M : Int) / 2 ^ (8 * k + 8)) → Calls Ybad.prog 12 #[.int .u64 x] w1 fun e w' => e = .returned (.int .i64 (bbI x)) ∧ w' = w1))
    (E1 : bbI (M : Int) = (k : Int)) (E2 : bbI ((M : Int) / 2 ^ (8 * k + 8)) = (m : Int))
    (H4 : Hid (∀ w1, Below w.heap.size w w1 → w1.cell? ⟨b, off + (i + k), none⟩ = some (.int .u8 46))) :
    Calls Ybad.prog 5 #[.slice (some ⟨b, off, none⟩) n c, .int .i64 i] w fun e w' => e = ret4 0 0 0 false ∧ Below w.heap.size w w' := by
  have hk8 : ((k : Int) == 8) = false := by simp; omega
  go_enter Ybad.func5, Ybad.ntmps5
  go_wp2_with (first
    | (go_at_call 10; refine H1.out.mono ?_; rintro e w1 ⟨rfl, hb1⟩; have hc1 := H4.out _ hb1)
    | (go_at_call 11; refine (H2.out _).mono ?_; rintro e w' ⟨rfl, rfl⟩)
    | (go_at_call 12; refine (H3.out _ _ hb1 ?_).mono ?_; (first | exact .inl rfl | exact .inr rfl); rintro e w' ⟨rfl, rfl⟩)
    | (go_at_call 13; refine (lowBytes_any _ _ ?_).mono ?_; omega; rintro e w' ⟨rfl, rfl⟩))
  refine bodyPost_ret (results_tmp4 rfl _ _ _) rfl ?_
  exact ⟨ret4_of rfl rfl rfl, hb1⟩

set_option maxHeartbeats 400000 in
theorem short_B20 (b off n c i W M m : Nat) (k : Nat) (w : World) (hn : i + 8 ≤ n) (hn20 : n ≤ 1048576) (hm : m + k = 0)
    (H1 : Hid (Calls Ybad.prog 10 #[.slice (some ⟨b, off, none⟩) n c, .int .i64 i] w fun e w' => e = .returned (.int .u64 (W : Int)) ∧ Below w.heap.size w w'))
    (H2 : Hid (∀ w : World, Calls Ybad.prog 11 #[.int .u64 (W : Int)] w fun e w' => e = .returned (.int .u64 (M : Int)) ∧ w' = w))
    (H3 : Hid (∀ w1 x, Below w.heap.size w w1 → (x = (M : Int) ∨ x = (M : Int) / 2 ^ (8 * k + 8)) → Calls Ybad.prog 12 #[.int .u64 x] w1 fun e w' => e = .returned (.int .i64 (bbI x)) ∧ w' = w1))
    (E1 : bbI (M : Int) = (k : Int)) (E2 : bbI ((M : Int) / 2 ^ (8 * k + 8)) = (m : Int))
    (H4 : Hid (∀ w1, Below w.heap.size w w1 → w1.cell? ⟨b, off + (i + k), none⟩ = some (.int .u8 46))) :
    Calls Ybad.prog 5 #[.slice (some ⟨b, off, none⟩) n c, .int .i64 i] w fun e w' => e = ret4 0 0 0 false ∧ Below w.heap.size w w' := by
  have hk8 : ((k : Int) == 8) = false := by simp; omega
  have hk0 : k ≤ 0 := by omega
  have hm0 : m ≤ 0 := by omega
  have hkm : ((k : Int) + (m : Int) == 0) = true := by simp; omega
  clear hm
  go_enter Ybad.func5, Ybad.ntmps5
  go_wp2_with (first
    | (go_at_call 10; refine H1.out.mono ?_; rintro e w1 ⟨rfl, hb1⟩; have hc1 := H4.out _ hb1)
    | (go_at_call 11; refine (H2.out _).mono ?_; rintro e w' ⟨rfl, rfl⟩)
    | (go_at_call 12; refine (H3.out _ _ hb1 ?_).mono ?_; (first | exact .inl rfl | exact .inr rfl); rintro e w' ⟨rfl, rfl⟩)
    | (go_at_call 13; refine (lowBytes_any _ _ ?_).mono ?_; omega; rintro e w' ⟨rfl, rfl⟩))
  refine bodyPost_ret (results_tmp4 rfl _ _ _) rfl ?_
  exact ⟨ret4_of rfl rfl rfl, hb1⟩

/-- the digits behind the point moved down over it, as the walk spells it. -/
def joinI (W k m : Nat) : Int :=
  bits BinOp.or IntKind.u64 (bits BinOp.and IntKind.u64 (W : Int) (lowB k : Int)) (IntKind.u64.wrap (bits BinOp.and IntKind.u64 ((W : Int) / 2 ^ (8 * k + 8)) (lowB m : Int) * 2 ^ (8 * k)))

set_option maxHeartbeats 400000 in
theorem short_B2 (b off n c i W M m : Nat) (k : Nat) (w : World) (hn : i + 8 ≤ n) (hn20 : n ≤ 1048576) (hm : m + k < 7) (hkm0 : 1 ≤ m + k)
    (H1 : Hid (Calls Ybad.prog 10 #[.slice (some ⟨b, off, none⟩) n c, .int .i64 i] w fun e w' => e = .returned (.int .u64 (W : Int)) ∧ Below w.heap.size w w'))
    (H2 : Hid (∀ w : World, Calls Ybad.prog 11 #[.int .u64 (W : Int)] w fun e w' => e = .returned (.int .u64 (M : Int)) ∧ w' = w))
    (H3 : Hid (∀ w1 x, Below w.heap.size w w1 → (x = (M : Int) ∨ x = (M : Int) / 2 ^ (8 * k + 8)) → Calls Ybad.prog 12 #[.int .u64 x] w1 fun e w' => e = .returned (.int .i64 (bbI x)) ∧ w' = w1))
    (E1 : bbI (M : Int) = (k : Int)) (E2 : bbI ((M : Int) / 2 ^ (8 * k + 8)) = (m : Int))
    (H4 : Hid (∀ w1, Below w.heap.size w w1 → w1.cell? ⟨b, off + (i + k), none⟩ = some (.int .u8 46))) :
    Calls Ybad.prog 5 #[.slice (some ⟨b, off, none⟩) n c, .int .i64 i] w fun e w' => e = ret4 (numI (IntKind.u64.wrap (joinI W k m * 2 ^ (64 - 8 * (k + m))))) m (i + k + (1 + m)) true ∧ Below w.heap.size w w' := by
  have hk8 : ((k : Int) == 8) = false := by simp; omega
  have hkm : ((k : Int) + (m : Int) == 0) = false := by simp; omega
  go_enter Ybad.func5, Ybad.ntmps5
  go_wp2_with (first
    | (go_at_call 10; refine H1.out.mono ?_; rintro e w1 ⟨rfl, hb1⟩; have hc1 := H4.out _ hb1)
    | (go_at_call 11; refine (H2.out _).mono ?_; rintro e w' ⟨rfl, rfl⟩)
    | (go_at_call 12; refine (H3.out _ _ hb1 ?_).mono ?_; (first | exact .inl rfl | exact .inr rfl); rintro e w' ⟨rfl, rfl⟩)
    | (go_at_call 13; refine (lowBytes_any _ _ ?_).mono ?_; omega; rintro e w' ⟨rfl, rfl⟩))
  refine bodyPost_ret (results_tmp4 rfl _ _ _) rfl ?_
  exact ⟨ret4_of rfl rfl rfl, hb1⟩

/-! ### the numbers -/
theorem join_int (l : List Nat) (k m : Nat) (hb : Bytes l) (hl : l.length = 8) (h : k + 1 + m ≤ 8) : joinI (leN l) k m = (leN (l.take k ++ (l.drop (k + 1)).take m) : Int) := by
  have key := joined l k m hb hl h
  have hW : leN l < 18446744073709551616 := by have := leN_lt l hb; rw [hl] at this; simpa using this
  generalize leN (l.take k ++ (l.drop (k + 1)).take m) = J at key
  generalize leN l = W at key hW
  have hlow : ∀ n, n ≤ 8 → 256 ^ n - 1 < 18446744073709551616 := by
    intro n hn
    have := Nat.pow_le_pow_right (show 0 < 256 by omega) hn
    simp only [show (256 : Nat) ^ 8 = 18446744073709551616 by decide] at this
    omega
  have d1 : (W : Int) / 2 ^ (8 * k + 8) = ((W / 256 ^ (k + 1) : Nat) : Int) := by
    rw [pow256, Int.natCast_ediv, Int.natCast_pow, show 8 * (k + 1) = 8 * k + 8 by omega]; rfl
  have hq : W / 256 ^ (k + 1) < 18446744073709551616 := Nat.lt_of_le_of_lt (Nat.div_le_self _ _) hW
  unfold joinI lowB
  rw [d1, u64_and_nat W _ hW (hlow k (by omega)), u64_and_nat _ _ hq (hlow m (by omega))]
  have d2 : IntKind.u64.wrap (((W / 256 ^ (k + 1) &&& (256 ^ m - 1) : Nat) : Int) * 2 ^ (8 * k)) = (((W / 256 ^ (k + 1) &&& (256 ^ m - 1)) * 256 ^ k % 256 ^ 8 : Nat) : Int) := by
    rw [IntKind.wrap_u64, show (256 : Nat) ^ 8 = 18446744073709551616 by decide, pow256 k, Int.natCast_emod, Int.natCast_mul, Int.natCast_pow]; rfl
  rw [d2]
  have b1 : W &&& (256 ^ k - 1) < 18446744073709551616 := Nat.lt_of_le_of_lt Nat.and_le_left hW
  have b2 : (W / 256 ^ (k + 1) &&& (256 ^ m - 1)) * 256 ^ k % 256 ^ 8 < 18446744073709551616 := by
    have := Nat.mod_lt ((W / 256 ^ (k + 1) &&& (256 ^ m - 1)) * 256 ^ k) (show 0 < 256 ^ 8 by decide)
    simpa only [show (256 : Nat) ^ 8 = 18446744073709551616 by decide] using this
  rw [u64_or_nat _ _ b1 b2, key]

theorem wdiv (X C b : Nat) : IntKind.u64.wrap ((X : Int) * (C : Int)) / (b : Int) = ((X * C % 18446744073709551616 / b : Nat) : Int) := by
  rw [IntKind.wrap_u64, Int.natCast_ediv, Int.natCast_emod, Int.natCast_mul]; rfl

theorem num_int (L : List Nat) (d : Nat) (hb : Bytes L) (hd : d ≤ L.length) (hd8 : d ≤ 8) (hD : ∀ z ∈ L.take d, 48 ≤ z ∧ z ≤ 57) :
    numI (IntKind.u64.wrap ((leN L : Int) * 2 ^ (64 - 8 * d))) = (dec (L.take d) : Int) := by
  have key := number L d hb hd hd8 hD
  generalize dec (L.take d) = R at key
  generalize leN L = W at key
  have d0 : IntKind.u64.wrap ((W : Int) * 2 ^ (64 - 8 * d)) = ((W * 256 ^ (8 - d) % 256 ^ 8 : Nat) : Int) := by
    rw [IntKind.wrap_u64, show (256 : Nat) ^ 8 = 18446744073709551616 by decide, pow256 (8 - d), Int.natCast_emod, Int.natCast_mul, Int.natCast_pow, show 8 * (8 - d) = 64 - 8 * d by omega]; rfl
  rw [d0]
  have hX : W * 256 ^ (8 - d) % 256 ^ 8 < 18446744073709551616 := by
    have := Nat.mod_lt (W * 256 ^ (8 - d)) (show 0 < 256 ^ 8 by decide)
    simpa only [show (256 : Nat) ^ 8 = 18446744073709551616 by decide] using this
  generalize W * 256 ^ (8 - d) % 256 ^ 8 = X at key hX
  clear d0 hb hd hd8 hD
  have x1 := u64_and_nat X 1085102592571150095 hX (by omega)
  obtain ⟨X1, gX1⟩ : ∃ y, y = X &&& 1085102592571150095 := ⟨_, rfl⟩
  rw [← gX1] at key x1
  clear gX1
  have w1 := wdiv X1 2561 256
  have h1 : X1 * 2561 % 18446744073709551616 / 256 < 18446744073709551616 := by omega
  obtain ⟨X2, gX2⟩ : ∃ y, y = X1 * 2561 % 18446744073709551616 / 256 := ⟨_, rfl⟩
  rw [← gX2] at key w1 h1
  clear gX2
  have x2 := u64_and_nat X2 71777214294589695 h1 (by omega)
  obtain ⟨X3, gX3⟩ : ∃ y, y = X2 &&& 71777214294589695 := ⟨_, rfl⟩
  rw [← gX3] at key x2
  clear gX3
  have w2 := wdiv X3 6553601 65536
  have h2 : X3 * 6553601 % 18446744073709551616 / 65536 < 18446744073709551616 := by omega
  obtain ⟨X4, gX4⟩ : ∃ y, y = X3 * 6553601 % 18446744073709551616 / 65536 := ⟨_, rfl⟩
  rw [← gX4] at key w2 h2
  clear gX4
  have x3 := u64_and_nat X4 281470681808895 h2 (by omega)
  obtain ⟨X5, gX5⟩ : ∃ y, y = X4 &&& 281470681808895 := ⟨_, rfl⟩
  rw [← gX5] at key x3
  clear gX5
  have w3 := wdiv X5 42949672960001 4294967296
  rw [key] at w3
  simp only [Int.cast_ofNat_Int] at x1 x2 x3 w1 w2 w3
  unfold numI
  rw [x1, w1, x2, w2, x3, w3]
end Go.Proofs.YbulkdwqcDoor
