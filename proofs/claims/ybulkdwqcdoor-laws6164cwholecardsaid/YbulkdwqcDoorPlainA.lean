/- OF NO PROGRAM: the plain mathematics behind 'shortWord': a word as its eight bytes. -/
import Derived.Lib.TrailingZeros
namespace Go.Proofs.YbulkdwqcDoor.PlainA
open Go

/-- little-endian value of a list of bytes (numbers). -/
def leN : List Nat → Nat
  | [] => 0
  | b :: r => b + 256 * leN r

theorem tb (a A i : Nat) (ha : a < 256) : (a + 256 * A).testBit i = if i < 8 then a.testBit i else A.testBit (i - 8) := by
  have := Nat.testBit_two_pow_mul_add A (i := 8) (b := a) (by omega) i
  rw [show a + 256 * A = 2 ^ 8 * A + a by omega]
  exact this

theorem and_step (a c A C : Nat) (ha : a < 256) (hc : c < 256) : (a + 256 * A) &&& (c + 256 * C) = (a &&& c) + 256 * (A &&& C) := by
  apply Nat.eq_of_testBit_eq
  intro i
  have h : a &&& c < 256 := Nat.and_lt_two_pow (n := 8) a (by omega)
  rw [Nat.testBit_and, tb a A i ha, tb c C i hc, tb _ _ i h]
  split <;> simp

theorem or_step (a c A C : Nat) (ha : a < 256) (hc : c < 256) : (a + 256 * A) ||| (c + 256 * C) = (a ||| c) + 256 * (A ||| C) := by
  apply Nat.eq_of_testBit_eq
  intro i
  have h : a ||| c < 256 := Nat.or_lt_two_pow (n := 8) (by omega) (by omega)
  rw [Nat.testBit_or, tb a A i ha, tb c C i hc, tb _ _ i h]
  split <;> simp

theorem xor_step (a c A C : Nat) (ha : a < 256) (hc : c < 256) : (a + 256 * A) ^^^ (c + 256 * C) = (a ^^^ c) + 256 * (A ^^^ C) := by
  apply Nat.eq_of_testBit_eq
  intro i
  have h : a ^^^ c < 256 := Nat.xor_lt_two_pow (n := 8) (by omega) (by omega)
  rw [Nat.testBit_xor, tb a A i ha, tb c C i hc, tb _ _ i h]
  split <;> simp

def Bytes (l : List Nat) : Prop := ∀ z ∈ l, z < 256

theorem and_leN : ∀ (l : List Nat) (c : Nat), Bytes l → c < 256 → leN l &&& leN (List.replicate l.length c) = leN (l.map (· &&& c))
  | [], _, _, _ => by simp [leN]
  | z :: r, c, h, hc => by
    simp only [List.length_cons, List.replicate_succ, leN, List.map_cons]
    rw [and_step z c _ _ (h z (by simp)) hc, and_leN r c (fun y hy => h y (by simp [hy])) hc]

theorem xor_leN : ∀ (l : List Nat) (c : Nat), Bytes l → c < 256 → leN l ^^^ leN (List.replicate l.length c) = leN (l.map (· ^^^ c))
  | [], _, _, _ => by simp [leN]
  | z :: r, c, h, hc => by
    simp only [List.length_cons, List.replicate_succ, leN, List.map_cons]
    rw [xor_step z c _ _ (h z (by simp)) hc, xor_leN r c (fun y hy => h y (by simp [hy])) hc]

theorem or_leN : ∀ (l l' : List Nat), Bytes l → Bytes l' → l.length = l'.length → leN l ||| leN l' = leN (List.zipWith (· ||| ·) l l')
  | [], [], _, _, _ => by simp [leN]
  | z :: r, y :: s, h, h', e => by
    simp only [leN, List.zipWith_cons_cons]
    rw [or_step z y _ _ (h z (by simp)) (h' y (by simp)), or_leN r s (fun y hy => h y (by simp [hy])) (fun y hy => h' y (by simp [hy])) (by simpa using e)]
  | [], _ :: _, _, _, e => by simp at e
  | _ :: _, [], _, _, e => by simp at e

theorem add_leN : ∀ (l : List Nat) (c : Nat), leN l + leN (List.replicate l.length c) = leN (l.map (· + c))
  | [], _ => by simp [leN]
  | z :: r, c => by
    simp only [List.length_cons, List.replicate_succ, leN, List.map_cons]
    have := add_leN r c
    omega

theorem leN_lt : ∀ (l : List Nat), Bytes l → leN l < 256 ^ l.length
  | [], _ => by simp [leN]
  | z :: r, h => by
    have h1 := h z (by simp)
    have h2 := leN_lt r (fun y hy => h y (by simp [hy]))
    simp only [leN, List.length_cons, Nat.pow_succ]
    omega

theorem leN_append : ∀ (l l' : List Nat), leN (l ++ l') = leN l + 256 ^ l.length * leN l'
  | [], l' => by simp [leN]
  | z :: r, l' => by
    simp only [List.cons_append, leN, leN_append r l', List.length_cons, Nat.pow_succ]
    rw [Nat.mul_add, Nat.mul_comm (256 ^ r.length) 256, Nat.mul_assoc]
    omega

theorem leN_replicate0 : ∀ n, leN (List.replicate n 0) = 0
  | 0 => rfl
  | n + 1 => by simp [List.replicate_succ, leN, leN_replicate0 n]

/-- the bytes behind the first k. -/
theorem shr_leN (l : List Nat) (k : Nat) (h : Bytes l) (hk : k ≤ l.length) : leN l / 256 ^ k = leN (l.drop k) := by
  have e := leN_append (l.take k) (l.drop k)
  rw [List.take_append_drop] at e
  have hl : (l.take k).length = k := by simp; omega
  have hb := leN_lt (l.take k) (fun y hy => h y (List.mem_of_mem_take hy))
  rw [hl] at e hb
  rw [e, Nat.add_mul_div_left _ _ (Nat.pos_of_ne_zero (by intro h0; simp at h0)), Nat.div_eq_of_lt hb, Nat.zero_add]

/-- the first k bytes. -/
theorem mod_leN (l : List Nat) (k : Nat) (h : Bytes l) (hk : k ≤ l.length) : leN l % 256 ^ k = leN (l.take k) := by
  have e := leN_append (l.take k) (l.drop k)
  rw [List.take_append_drop] at e
  have hl : (l.take k).length = k := by simp; omega
  have hb := leN_lt (l.take k) (fun y hy => h y (List.mem_of_mem_take hy))
  rw [hl] at e hb
  rw [e, Nat.add_mul_mod_self_left, Nat.mod_eq_of_lt hb]

/-! ### the marks -/
def isDig (z : Nat) : Bool := decide (48 ≤ z) && decide (z ≤ 57)
def mark (z : Nat) : Nat := if isDig z then 0 else 128

theorem mark_eq : ∀ z, z < 256 → ((((z ^^^ 48) &&& 127) + 118) ||| (z ^^^ 48)) &&& 128 = mark z := by decide +kernel
theorem mark_lt (z : Nat) : mark z < 256 := by unfold mark; split <;> omega
theorem low7 : ∀ z, z < 256 → (z ^^^ 48) < 256 ∧ ((z ^^^ 48) &&& 127) + 118 < 256 := by decide +kernel

theorem nd_gen (l : List Nat) (h : Bytes l) (A B C D : Nat) (e48 : leN (List.replicate l.length 48) = A) (e127 : leN (List.replicate l.length 127) = B)
    (e118 : leN (List.replicate l.length 118) = C) (e128 : leN (List.replicate l.length 128) = D) :
    ((((leN l ^^^ A) &&& B) + C) ||| (leN l ^^^ A)) &&& D = leN (l.map mark) := by
  have b1 : Bytes (l.map (· ^^^ 48)) := by
    intro y hy; simp only [List.mem_map] at hy; obtain ⟨z, hz, rfl⟩ := hy; exact (low7 z (h z hz)).1
  have b2 : Bytes (((l.map (· ^^^ 48)).map (· &&& 127)).map (· + 118)) := by
    intro y hy; simp only [List.mem_map, List.map_map] at hy; obtain ⟨z, hz, rfl⟩ := hy; exact (low7 z (h z hz)).2
  have s1 := xor_leN l 48 h (by omega)
  have s2 := and_leN _ 127 b1 (by omega)
  have s3 := add_leN ((l.map (· ^^^ 48)).map (· &&& 127)) 118
  have s4 := or_leN _ _ b2 b1 (by simp)
  have z1 : List.zipWith (· ||| ·) (((l.map (· ^^^ 48)).map (· &&& 127)).map (· + 118)) (l.map (· ^^^ 48)) = l.map fun z => (((z ^^^ 48) &&& 127) + 118) ||| (z ^^^ 48) := by
    rw [List.map_map, List.map_map, List.zipWith_map_left, List.zipWith_map_right, List.zipWith_self]
    rfl
  rw [z1] at s4
  have b3 : Bytes (l.map fun z => (((z ^^^ 48) &&& 127) + 118) ||| (z ^^^ 48)) := by
    intro y hy
    simp only [List.mem_map] at hy
    obtain ⟨z, hz, rfl⟩ := hy
    exact Nat.or_lt_two_pow (n := 8) (low7 z (h z hz)).2 (low7 z (h z hz)).1
  have s5 := and_leN _ 128 b3 (by omega)
  rw [e48] at s1
  rw [List.length_map, e127] at s2
  rw [List.length_map, List.length_map, e118] at s3
  rw [List.length_map, e128] at s5
  rw [s1, s2, s3, s4, s5, List.map_map]
  congr 1
  apply List.map_congr_left
  intro z hz
  exact mark_eq z (h z hz)

theorem rep8 (c : Nat) : leN (List.replicate 8 c) = c * 72340172838076673 := by
  simp only [List.replicate, leN]
  omega


theorem e48 : leN (List.replicate 8 48) = 3472328296227680304 := by simp only [rep8, Nat.reduceMul]
theorem e127 : leN (List.replicate 8 127) = 9187201950435737471 := by simp only [rep8, Nat.reduceMul]
theorem e118 : leN (List.replicate 8 118) = 8536140394893047414 := by simp only [rep8, Nat.reduceMul]
theorem e128 : leN (List.replicate 8 128) = 9259542123273814144 := by simp only [rep8, Nat.reduceMul]
theorem e15 : leN (List.replicate 8 15) = 1085102592571150095 := by simp only [rep8, Nat.reduceMul]

/-! ### where the first mark lies -/
def nlead (l : List Nat) : Nat := (l.takeWhile isDig).length

theorem ctz_even (f y : Nat) : Lib.ctzFrom (f + 1) (2 * y) = 1 + Lib.ctzFrom f y := by
  rw [Lib.ctzFrom, if_neg (by omega), show 2 * y / 2 = y by omega]
theorem ctz_odd (f y : Nat) : Lib.ctzFrom (f + 1) (2 * y + 1) = 0 := by
  rw [Lib.ctzFrom, if_pos (by omega)]
theorem ctz_256 (f y : Nat) : Lib.ctzFrom (f + 8) (256 * y) = 8 + Lib.ctzFrom f y := by
  rw [show 256 * y = 2 * (2 * (2 * (2 * (2 * (2 * (2 * (2 * y))))))) by omega]
  rw [ctz_even, ctz_even, ctz_even, ctz_even, ctz_even, ctz_even, ctz_even, ctz_even]
  omega
theorem ctz_128 (f y : Nat) : Lib.ctzFrom (f + 8) (128 + 256 * y) = 7 := by
  rw [show 128 + 256 * y = 2 * (2 * (2 * (2 * (2 * (2 * (2 * (2 * y + 1))))))) by omega]
  rw [ctz_even, ctz_even, ctz_even, ctz_even, ctz_even, ctz_even, ctz_even, ctz_odd]

theorem marks_zero : ∀ (l : List Nat), leN (l.map mark) = 0 ↔ l.all isDig = true
  | [] => by simp [leN]
  | z :: r => by
    have := marks_zero r
    simp only [List.map_cons, leN, List.all_cons, Bool.and_eq_true, ← this]
    by_cases hz : isDig z = true
    · simp only [mark, hz, if_true, true_and]; omega
    · simp [mark, hz]

theorem ctz_marks : ∀ (l : List Nat) (f : Nat), l.all isDig = false → Lib.ctzFrom (f + 8 * l.length) (leN (l.map mark)) = 8 * nlead l + 7
  | [], _, h => by simp at h
  | z :: r, f, h => by
    simp only [List.map_cons, leN, List.length_cons]
    rw [show f + 8 * (r.length + 1) = f + 8 * r.length + 8 by omega]
    by_cases hz : isDig z = true
    · have hr : r.all isDig = false := by simpa [hz] using h
      have := ctz_marks r f hr
      simp only [mark, hz, if_true, Nat.zero_add, nlead, List.takeWhile_cons, List.length_cons]
      rw [ctz_256, this]
      unfold nlead
      omega
    · simp only [mark, hz, nlead, List.takeWhile_cons]
      exact ctz_128 _ _

/-- 'bytesBelow' of the marks: the digits ahead of the first other byte; 8 where all are digits. -/
theorem bb_marks (l : List Nat) (hl : l.length ≤ 8) : Lib.ctz 64 (leN (l.map mark)) / 8 = if l.all isDig then 8 else nlead l := by
  unfold Lib.ctz
  by_cases h : l.all isDig = true
  · rw [if_pos ((marks_zero l).2 h), if_pos h]
  · have h0 : ¬ leN (l.map mark) = 0 := fun e => h ((marks_zero l).1 e)
    have := ctz_marks l (64 - 8 * l.length) (by simpa using h)
    rw [show 64 - 8 * l.length + 8 * l.length = 64 by omega] at this
    rw [if_neg h0, if_neg h, this]
    omega

theorem nlead_le (l : List Nat) : nlead l ≤ l.length := by
  unfold nlead
  exact (List.takeWhile_sublist isDig).length_le
theorem nlead_lt (l : List Nat) (h : l.all isDig = false) : nlead l < l.length := by
  have hle := nlead_le l
  rcases Nat.lt_or_ge (nlead l) l.length with h1 | h1
  · exact h1
  · exfalso
    have e : l.takeWhile isDig = l := (List.takeWhile_sublist isDig).eq_of_length_le h1
    have : l.all isDig = true := by
      rw [← e]; exact List.all_takeWhile
    rw [this] at h; cases h
theorem nlead_all (l : List Nat) (h : l.all isDig = true) : nlead l = l.length := by
  unfold nlead
  induction l with
  | nil => rfl
  | cons z r ih =>
    simp only [List.all_cons, Bool.and_eq_true] at h
    simp only [List.takeWhile_cons, h.1, if_true, List.length_cons, ih h.2]
theorem take_nlead (l : List Nat) : l.take (nlead l) = l.takeWhile isDig := by
  unfold nlead
  induction l with
  | nil => rfl
  | cons z r ih =>
    by_cases hz : isDig z = true
    · simp [hz, ih]
    · simp [hz]
theorem dig_nlead (l : List Nat) : ∀ z ∈ l.take (nlead l), 48 ≤ z ∧ z ≤ 57 := by
  intro z hz
  rw [take_nlead] at hz
  have := List.all_takeWhile (p := isDig) (l := l)
  rw [List.all_eq_true] at this
  simpa [isDig] using this z hz

/-! ### the three multiplications -/
theorem lane (n a c A C : Nat) (ha : a < 2 ^ n) (hc : c < 2 ^ n) : (a + 2 ^ n * A) &&& (c + 2 ^ n * C) = (a &&& c) + 2 ^ n * (A &&& C) := by
  apply Nat.eq_of_testBit_eq
  intro i
  have h : a &&& c < 2 ^ n := Nat.and_lt_two_pow a hc
  rw [Nat.add_comm a, Nat.add_comm c, Nat.add_comm (a &&& c), Nat.testBit_and, Nat.testBit_two_pow_mul_add A ha, Nat.testBit_two_pow_mul_add C hc, Nat.testBit_two_pow_mul_add _ h]
  split <;> simp

theorem and255 (a : Nat) (h : a < 256) : a &&& 255 = a := by
  rw [Nat.and_two_pow_sub_one_eq_mod a 8]; omega
theorem and65535 (a : Nat) (h : a < 65536) : a &&& 65535 = a := by
  rw [Nat.and_two_pow_sub_one_eq_mod a 16]; omega

theorem step1 (a0 a1 a2 a3 a4 a5 a6 : Nat) (h0 : a0 < 256) (h1 : a1 < 256) (h2 : a2 < 256) (h3 : a3 < 256) (h4 : a4 < 256) (h5 : a5 < 256) (h6 : a6 < 256) (M : Nat)
    (hM : M = 255 + 256 * (0 + 256 * (255 + 256 * (0 + 256 * (255 + 256 * (0 + 256 * 255)))))) :
    (a0 + 256 * (a1 + 256 * (a2 + 256 * (a3 + 256 * (a4 + 256 * (a5 + 256 * a6)))))) &&& M = a0 + 65536 * (a2 + 65536 * (a4 + 65536 * a6)) := by
  rw [hM, and_step _ _ _ _ h0 (by omega), and_step _ _ _ _ h1 (by omega), and_step _ _ _ _ h2 (by omega), and_step _ _ _ _ h3 (by omega), and_step _ _ _ _ h4 (by omega), and_step _ _ _ _ h5 (by omega)]
  rw [and255 _ h0, and255 _ h2, and255 _ h4, and255 _ h6, Nat.and_zero, Nat.and_zero, Nat.and_zero]
  omega

theorem step2 (a0 a1 a2 : Nat) (h0 : a0 < 65536) (h1 : a1 < 65536) (h2 : a2 < 65536) (M : Nat) (hM : M = 65535 + 65536 * (0 + 65536 * 65535)) :
    (a0 + 65536 * (a1 + 65536 * a2)) &&& M = a0 + 4294967296 * a2 := by
  have e1 := lane 16 a0 65535 (a1 + 65536 * a2) (0 + 65536 * 65535) (by omega) (by omega)
  have e2 := lane 16 a1 0 a2 65535 (by omega) (by omega)
  simp only [show (2 : Nat) ^ 16 = 65536 from rfl] at e1 e2
  rw [hM, e1, e2, and65535 _ h0, and65535 _ h2, Nat.and_zero]
  omega

/-- the digits' value. -/
def dec (l : List Nat) : Nat := l.foldl (fun v z => v * 10 + (z - 48)) 0

theorem cutDiv (X A B C b M : Nat) (hX : X = A + b * B + M * C) (hA : A < b) (hb : 0 < b) (hM : A + b * B < M) : X % M / b = B := by
  rw [hX, Nat.add_mul_mod_self_left, Nat.mod_eq_of_lt hM, Nat.add_mul_div_left _ _ hb, Nat.div_eq_of_lt hA, Nat.zero_add]

theorem mul3 (e0 e1 e2 e3 e4 e5 e6 e7 M1 M2 : Nat) (h0 : e0 ≤ 9) (h1 : e1 ≤ 9) (h2 : e2 ≤ 9) (h3 : e3 ≤ 9) (h4 : e4 ≤ 9) (h5 : e5 ≤ 9) (h6 : e6 ≤ 9) (h7 : e7 ≤ 9)
    (hM1 : M1 = 255 + 256 * (0 + 256 * (255 + 256 * (0 + 256 * (255 + 256 * (0 + 256 * 255)))))) (hM2 : M2 = 65535 + 65536 * (0 + 65536 * 65535)) :
    ((((leN [e0, e1, e2, e3, e4, e5, e6, e7] * 2561 % 18446744073709551616 / 256) &&& M1) * 6553601 % 18446744073709551616 / 65536) &&& M2) * 42949672960001 % 18446744073709551616 / 4294967296
      = e0 * 10000000 + e1 * 1000000 + e2 * 100000 + e3 * 10000 + e4 * 1000 + e5 * 100 + e6 * 10 + e7 := by
  have s1 : leN [e0, e1, e2, e3, e4, e5, e6, e7] * 2561 % 18446744073709551616 / 256 = (10 * e0 + e1) + 256 * ((10 * e1 + e2) + 256 * ((10 * e2 + e3) + 256 * ((10 * e3 + e4) + 256 * ((10 * e4 + e5) + 256 * ((10 * e5 + e6) + 256 * (10 * e6 + e7)))))) :=
    cutDiv _ e0 _ (10 * e7) 256 _ (by simp only [leN]; omega) (by omega) (by omega) (by omega)
  rw [s1, step1 _ _ _ _ _ _ _ (by omega) (by omega) (by omega) (by omega) (by omega) (by omega) (by omega) M1 hM1]
  clear s1 hM1
  have s2 : (10 * e0 + e1 + 65536 * (10 * e2 + e3 + 65536 * (10 * e4 + e5 + 65536 * (10 * e6 + e7)))) * 6553601 % 18446744073709551616 / 65536
      = (100 * (10 * e0 + e1) + (10 * e2 + e3)) + 65536 * ((100 * (10 * e2 + e3) + (10 * e4 + e5)) + 65536 * (100 * (10 * e4 + e5) + (10 * e6 + e7))) :=
    cutDiv _ (10 * e0 + e1) _ (100 * (10 * e6 + e7)) 65536 _ (by omega) (by omega) (by omega) (by omega)
  have s3 := step2 (100 * (10 * e0 + e1) + (10 * e2 + e3)) (100 * (10 * e2 + e3) + (10 * e4 + e5)) (100 * (10 * e4 + e5) + (10 * e6 + e7)) (by clear s2 hM2; omega) (by clear s2 hM2; omega) (by clear s2 hM2; omega) M2 hM2
  rw [s2, s3]
  clear s2 s3 hM2
  rw [cutDiv _ (100 * (10 * e0 + e1) + (10 * e2 + e3)) (10000 * (100 * (10 * e0 + e1) + (10 * e2 + e3)) + (100 * (10 * e4 + e5) + (10 * e6 + e7))) (10000 * (100 * (10 * e4 + e5) + (10 * e6 + e7))) 4294967296 _ (by omega) (by omega) (by omega) (by omega)]
  omega

theorem mask1 : (71777214294589695 : Nat) = 255 + 256 * (0 + 256 * (255 + 256 * (0 + 256 * (255 + 256 * (0 + 256 * 255))))) := by simp only [Nat.reduceMul, Nat.reduceAdd]
theorem mask2 : (281470681808895 : Nat) = 65535 + 65536 * (0 + 65536 * 65535) := by simp only [Nat.reduceMul, Nat.reduceAdd]

/-! ### the number -/
theorem shl_leN (l : List Nat) (d : Nat) (hb : Bytes l) (hd : d ≤ l.length) (hd8 : d ≤ 8) :
    leN l * 256 ^ (8 - d) % 256 ^ 8 = leN (List.replicate (8 - d) 0 ++ l.take d) := by
  have e : (256 : Nat) ^ 8 = 256 ^ (8 - d) * 256 ^ d := by rw [← Nat.pow_add]; congr 1; omega
  rw [e, Nat.mul_comm (leN l), Nat.mul_mod_mul_left, mod_leN l d hb hd, leN_append, leN_replicate0, List.length_replicate, Nat.zero_add]

theorem nib : ∀ z, 48 ≤ z ∧ z ≤ 57 → z &&& 15 = z - 48 := by
  intro z h
  rw [Nat.and_two_pow_sub_one_eq_mod z 4]
  omega

theorem nib_leN (D : List Nat) (n : Nat) (hD : ∀ z ∈ D, 48 ≤ z ∧ z ≤ 57) (hl : n + D.length = 8) :
    leN (List.replicate n 0 ++ D) &&& 1085102592571150095 = leN (List.replicate n 0 ++ D.map (· - 48)) := by
  have hb : Bytes (List.replicate n 0 ++ D) := by
    intro z hz
    rw [List.mem_append] at hz
    rcases hz with hz | hz
    · have := List.eq_of_mem_replicate hz; omega
    · have := hD z hz; omega
  have := and_leN (List.replicate n 0 ++ D) 15 hb (by omega)
  rw [List.length_append, List.length_replicate, hl, e15] at this
  rw [this]
  congr 1
  rw [List.map_append, List.map_replicate, Nat.zero_and]
  congr 1
  apply List.map_congr_left
  intro z hz
  exact nib z (hD z hz)

def dec0 (l : List Nat) : Nat := l.foldl (fun v e => v * 10 + e) 0

theorem dec0_zeros : ∀ (n : Nat) (l : List Nat), dec0 (List.replicate n 0 ++ l) = dec0 l
  | 0, l => by simp
  | n + 1, l => by
    have := dec0_zeros n l
    unfold dec0 at this ⊢
    simpa [List.replicate_succ] using this

theorem dec_dec0 (l : List Nat) : dec l = dec0 (l.map (· - 48)) := by
  unfold dec dec0
  rw [List.foldl_map]

theorem mul3_list (E : List Nat) (hl : E.length = 8) (h9 : ∀ e ∈ E, e ≤ 9) :
    ((((leN E * 2561 % 18446744073709551616 / 256) &&& 71777214294589695) * 6553601 % 18446744073709551616 / 65536) &&& 281470681808895) * 42949672960001 % 18446744073709551616 / 4294967296 = dec0 E := by
  match E, hl with
  | [e0, e1, e2, e3, e4, e5, e6, e7], _ =>
    rw [mul3 e0 e1 e2 e3 e4 e5 e6 e7 _ _ (h9 _ (by simp)) (h9 _ (by simp)) (h9 _ (by simp)) (h9 _ (by simp)) (h9 _ (by simp)) (h9 _ (by simp)) (h9 _ (by simp)) (h9 _ (by simp)) mask1 mask2]
    simp only [dec0, List.foldl]
    omega

/-- THE NUMBER: the first d bytes of l, all digits, d from 1 to 8, taken through the shift, the nibbles and the three multiplications. -/
theorem number (l : List Nat) (d : Nat) (hb : Bytes l) (hd : d ≤ l.length) (hd8 : d ≤ 8) (hD : ∀ z ∈ l.take d, 48 ≤ z ∧ z ≤ 57) :
    (((((leN l * 256 ^ (8 - d) % 256 ^ 8) &&& 1085102592571150095) * 2561 % 18446744073709551616 / 256 &&& 71777214294589695) * 6553601 % 18446744073709551616 / 65536) &&& 281470681808895) * 42949672960001 % 18446744073709551616 / 4294967296
      = dec (l.take d) := by
  have hl : 8 - d + (l.take d).length = 8 := by rw [List.length_take]; omega
  rw [shl_leN l d hb hd hd8, nib_leN _ _ hD hl, mul3_list, dec0_zeros, dec_dec0]
  · simpa using hl
  · intro e he
    rw [List.mem_append] at he
    rcases he with he | he
    · have := List.eq_of_mem_replicate he; omega
    · rw [List.mem_map] at he
      obtain ⟨z, hz, rfl⟩ := he
      have := hD z hz
      omega

/-! ### the point taken out -/
theorem or_join (x y i : Nat) (hx : x < 2 ^ i) : x ||| 2 ^ i * y = x + 2 ^ i * y := by
  rw [Nat.or_comm, Nat.add_comm]
  exact (Nat.two_pow_add_eq_or_of_lt hx y).symm

theorem pow256 (n : Nat) : (256 : Nat) ^ n = 2 ^ (8 * n) := by rw [Nat.pow_mul]

theorem joined (l : List Nat) (k m : Nat) (hb : Bytes l) (hl : l.length = 8) (h : k + 1 + m ≤ 8) :
    (leN l &&& (256 ^ k - 1)) ||| ((leN l / 256 ^ (k + 1) &&& (256 ^ m - 1)) * 256 ^ k % 256 ^ 8) = leN (l.take k ++ (l.drop (k + 1)).take m) := by
  have a1 : leN l &&& (256 ^ k - 1) = leN (l.take k) := by
    rw [pow256, Nat.and_two_pow_sub_one_eq_mod, ← pow256, mod_leN l k hb (by omega)]
  have hbd : Bytes (l.drop (k + 1)) := fun z hz => hb z (List.mem_of_mem_drop hz)
  have a2 : leN l / 256 ^ (k + 1) &&& (256 ^ m - 1) = leN ((l.drop (k + 1)).take m) := by
    rw [shr_leN l (k + 1) hb (by omega), pow256 m, Nat.and_two_pow_sub_one_eq_mod, ← pow256, mod_leN _ m hbd (by simp; omega)]
  have hbt : Bytes ((l.drop (k + 1)).take m) := fun z hz => hbd z (List.mem_of_mem_take hz)
  have b2 := leN_lt _ hbt
  rw [List.length_take, List.length_drop, hl, Nat.min_eq_left (by omega)] at b2
  have b1 := leN_lt (l.take k) (fun z hz => hb z (List.mem_of_mem_take hz))
  rw [List.length_take, hl, Nat.min_eq_left (by omega)] at b1
  have hlt : leN ((l.drop (k + 1)).take m) * 256 ^ k < 256 ^ 8 := by
    have e : (256 : Nat) ^ 8 = 256 ^ (8 - k) * 256 ^ k := by rw [← Nat.pow_add]; congr 1; omega
    rw [e]
    apply Nat.mul_lt_mul_of_pos_right _ (Nat.pow_pos (by omega))
    exact Nat.lt_of_lt_of_le b2 (Nat.pow_le_pow_right (by omega) (by omega))
  rw [a1, a2, Nat.mod_eq_of_lt hlt, leN_append, List.length_take, hl, Nat.min_eq_left (by omega), Nat.mul_comm (leN _) (256 ^ k)]
  rw [pow256] at b1 ⊢
  exact or_join _ _ _ b1

end Go.Proofs.YbulkdwqcDoor.PlainA
