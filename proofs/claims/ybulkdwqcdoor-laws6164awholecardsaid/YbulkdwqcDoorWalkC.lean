import Derived.Test.YbulkdwqcDoorWalkB
namespace Go.Proofs.YbulkdwqcDoor
open Go.RowKit PlainA

/-- WHAT 'shortWord' AND THE MODEL ANSWER, from the eight bytes l at place i. -/
def swEnd (l : List Nat) (i : Nat) : Ending :=
  if l.all isDig = true then ret4 0 0 0 false
  else if l.getD (nlead l) 0 = 46 then
    if (l.drop (nlead l + 1)).all isDig = true then ret4 0 0 0 false
    else if nlead l + nlead (l.drop (nlead l + 1)) = 0 then ret4 0 0 0 false
    else ret4 (dec (l.take (nlead l) ++ (l.drop (nlead l + 1)).take (nlead (l.drop (nlead l + 1)))) : Nat) (nlead (l.drop (nlead l + 1)) : Nat) ((i : Int) + (nlead l : Nat) + (1 + (nlead (l.drop (nlead l + 1)) : Nat))) true
  else if nlead l = 0 then ret4 0 0 0 false
  else ret4 (dec (l.take (nlead l)) : Nat) 0 ((i : Int) + (nlead l : Nat)) true

theorem tab_later {w wx : World} (hb : Below w.heap.size w wx) (hT : TabAt 3 Lib.deBruijn64tab w) : TabAt 3 Lib.deBruijn64tab wx := fun j hj => cell_later hb (hT j hj)

theorem bytesBelow_I (x : Int) (w : World) (h0 : 0 ≤ x) (hx : x < 18446744073709551616) (h8 : bbI x ≤ 8) (hT : TabAt 3 Lib.deBruijn64tab w) :
    Calls Ybad.prog 12 #[.int .u64 x] w fun e w' => e = .returned (.int .i64 (bbI x)) ∧ w' = w := by
  obtain ⟨X, rfl⟩ := Int.eq_ofNat_of_zero_le h0
  have := bytesBelow_any X (Lib.ctz 64 X / 8) w (by omega) rfl (by unfold bbI at h8; rw [Int.toNat_natCast] at h8; omega) hT
  simpa [bbI] using this

theorem shortWord_any (b off n c i : Nat) (zs : List Nat) (w : World) (hn : i + 8 ≤ n) (hn20 : n ≤ 1048576) (hc : n ≤ c) (hm : c ≤ maxLen) (hz : zs.length = c)
    (hcell : ∀ k, k < zs.length → w.cell? ⟨b, off + k, none⟩ = some (.int .u8 (zs.getD k 0 : Nat))) (hb : Bytes zs) (hT : TabAt 3 Lib.deBruijn64tab w) :
    Calls Ybad.prog 5 #[.slice (some ⟨b, off, none⟩) n c, .int .i64 i] w fun e w' => e = swEnd ((zs.drop i).take 8) i ∧ Below w.heap.size w w' := by
  have H1 : Hid (Calls Ybad.prog 10 #[.slice (some ⟨b, off, none⟩) n c, .int .i64 i] w fun e w' => e = .returned (.int .u64 (leN ((zs.drop i).take 8) : Int)) ∧ Below w.heap.size w w') :=
    word_any b off n c i zs w hn hc hm hz hcell hb
  have hl8 : ((zs.drop i).take 8).length = 8 := by rw [List.length_take, List.length_drop]; omega
  have hbl : Bytes ((zs.drop i).take 8) := fun z hz => hb z (List.mem_of_mem_drop (List.mem_of_mem_take hz))
  have H4 : ∀ k, k < 8 → ∀ w1, Below w.heap.size w w1 → w1.cell? ⟨b, off + (i + k), none⟩ = some (.int .u8 (((zs.drop i).take 8).getD k 0 : Nat)) := by
    intro k hk w1 hb1
    rw [cell_later hb1 (hcell (i + k) (by omega))]
    simp [List.getD_eq_getElem?_getD, hk]
  generalize (zs.drop i).take 8 = l at H1 hl8 hbl H4
  clear hcell hb hz
  have hW : leN l < 18446744073709551616 := by have := leN_lt l hbl; rw [hl8] at this; simpa using this
  have hbm : Bytes (l.map PlainA.mark) := by
    intro y hy; rw [List.mem_map] at hy; obtain ⟨z, _, rfl⟩ := hy; exact mark_lt z
  have hM : leN (l.map PlainA.mark) < 18446744073709551616 := by have := leN_lt _ hbm; rw [List.length_map, hl8] at this; simpa using this
  have H2 : Hid (∀ w : World, Calls Ybad.prog 11 #[.int .u64 (leN l : Int)] w fun e w' => e = .returned (.int .u64 (leN (l.map PlainA.mark) : Int)) ∧ w' = w) :=
    fun w => notDigits_any l hbl hl8 w
  have bb0 := bb_marks l (by omega)
  have E0 : bbI (leN (l.map PlainA.mark) : Int) = ((if l.all isDig = true then 8 else nlead l : Nat) : Int) := by
    unfold bbI; rw [Int.toNat_natCast, bb0]
  have div0 : ∀ j, (0 : Int) ≤ (leN (l.map PlainA.mark) : Int) / 2 ^ j ∧ (leN (l.map PlainA.mark) : Int) / 2 ^ j < 18446744073709551616 := by
    intro j
    have e : (leN (l.map PlainA.mark) : Int) / 2 ^ j = ((leN (l.map PlainA.mark) / 2 ^ j : Nat) : Int) := by
      rw [Int.natCast_ediv, Int.natCast_pow]; rfl
    have := Nat.div_le_self (leN (l.map PlainA.mark)) (2 ^ j)
    rw [e]
    generalize leN (l.map PlainA.mark) / 2 ^ j = y at this
    omega
  unfold swEnd
  by_cases hall : l.all isDig = true
  · rw [if_pos hall] at E0 ⊢
    exact short_A b off n c i _ _ 8 w hn hn20 rfl H1 H2 (fun w1 hb1 => by
      have := bytesBelow_I (leN (l.map PlainA.mark)) w1 (by omega) (by omega) (by rw [E0]; omega) (tab_later hb1 hT)
      rw [E0] at this; exact this)
  · rw [if_neg hall] at E0 ⊢
    have hallf : l.all isDig = false := by simpa using hall
    have hk := nlead_lt l hallf
    have hdg := dig_nlead l
    rw [hl8] at hk
    have H3 : Hid (∀ w1, Below w.heap.size w w1 → Calls Ybad.prog 12 #[.int .u64 (leN (l.map PlainA.mark) : Int)] w1 fun e w' => e = .returned (.int .i64 (nlead l : Int)) ∧ w' = w1) := by
      intro w1 hb1
      have := bytesBelow_I (leN (l.map PlainA.mark)) w1 (by omega) (by omega) (by rw [E0]; omega) (tab_later hb1 hT)
      rw [E0] at this; exact this
    have H4k := H4 (nlead l) hk
    by_cases hp : l.getD (nlead l) 0 = 46
    · rw [if_pos hp]
      rw [hp] at H4k
      have hm2 : (leN (l.map PlainA.mark) : Int) / 2 ^ (8 * nlead l + 8) = (leN ((l.drop (nlead l + 1)).map PlainA.mark) : Int) := by
        have := shr_leN _ (nlead l + 1) hbm (by rw [List.length_map]; omega)
        rw [← List.map_drop] at this
        rw [← this, pow256, Int.natCast_ediv, Int.natCast_pow]; rfl
      have bb1 := bb_marks (l.drop (nlead l + 1)) (by rw [List.length_drop]; omega)
      have E2 : bbI ((leN (l.map PlainA.mark) : Int) / 2 ^ (8 * nlead l + 8)) = ((if (l.drop (nlead l + 1)).all isDig = true then 8 else nlead (l.drop (nlead l + 1)) : Nat) : Int) := by
        rw [hm2]; unfold bbI; rw [Int.toNat_natCast, bb1]
      clear hm2 bb1
      have hle2 := nlead_le (l.drop (nlead l + 1))
      rw [List.length_drop, hl8] at hle2
      have H3' : Hid (∀ w1 x, Below w.heap.size w w1 → (x = (leN (l.map PlainA.mark) : Int) ∨ x = (leN (l.map PlainA.mark) : Int) / 2 ^ (8 * nlead l + 8)) → Calls Ybad.prog 12 #[.int .u64 x] w1 fun e w' => e = .returned (.int .i64 (bbI x)) ∧ w' = w1) := by
        intro w1 x hb1 hx
        have h8 : bbI x ≤ 8 := by
          rcases hx with rfl | rfl
          · rw [E0]; omega
          · rw [E2]; split <;> omega
        have hx0 : 0 ≤ x ∧ x < 18446744073709551616 := by
          rcases hx with rfl | rfl
          · omega
          · exact div0 _
        exact bytesBelow_I x w1 hx0.1 hx0.2 h8 (tab_later hb1 hT)
      by_cases hall2 : (l.drop (nlead l + 1)).all isDig = true
      · rw [if_pos hall2] at E2 ⊢
        exact short_B1 b off n c i _ _ 8 _ w hn hn20 hk (by omega) H1 H2 H3' E0 E2 H4k
      · rw [if_neg hall2] at E2 ⊢
        have hlt2 := nlead_lt (l.drop (nlead l + 1)) (by simpa using hall2)
        rw [List.length_drop, hl8] at hlt2
        have hdg2 := dig_nlead (l.drop (nlead l + 1))
        by_cases h00 : nlead l + nlead (l.drop (nlead l + 1)) = 0
        · rw [if_pos h00]
          exact short_B20 b off n c i _ _ _ _ w hn hn20 (by omega) H1 H2 H3' E0 E2 H4k
        · rw [if_neg h00]
          have hj := join_int l (nlead l) (nlead (l.drop (nlead l + 1))) hbl hl8 (by omega)
          have hlen : (l.take (nlead l) ++ (l.drop (nlead l + 1)).take (nlead (l.drop (nlead l + 1)))).length = nlead l + nlead (l.drop (nlead l + 1)) := by
            rw [List.length_append, List.length_take, List.length_take, List.length_drop]; omega
          have htk : (l.take (nlead l) ++ (l.drop (nlead l + 1)).take (nlead (l.drop (nlead l + 1)))).take (nlead l + nlead (l.drop (nlead l + 1))) = (l.take (nlead l) ++ (l.drop (nlead l + 1)).take (nlead (l.drop (nlead l + 1)))) := List.take_of_length_le (by omega)
          have hn2 := num_int (l.take (nlead l) ++ (l.drop (nlead l + 1)).take (nlead (l.drop (nlead l + 1)))) (nlead l + nlead (l.drop (nlead l + 1)))
            (fun z hz => by
              rw [List.mem_append] at hz
              rcases hz with hz | hz
              · exact hbl z (List.mem_of_mem_take hz)
              · exact hbl z (List.mem_of_mem_drop (List.mem_of_mem_take hz)))
            (by omega) (by omega)
            (fun z hz => by
              rw [htk, List.mem_append] at hz
              rcases hz with hz | hz
              · exact hdg z hz
              · exact hdg2 z hz)
          rw [htk] at hn2
          have key := short_B2 b off n c i _ _ _ _ w hn hn20 (by omega) (by omega) H1 H2 H3' E0 E2 H4k
          rw [hj, hn2] at key
          exact key
    · rw [if_neg hp]
      by_cases hk0 : nlead l = 0
      · rw [if_pos hk0]
        exact short_C0 b off n c i _ _ _ _ w hn hn20 hk0 hp H1 H2 H3 H4k
      · rw [if_neg hk0]
        have hn2 := num_int l (nlead l) hbl (by omega) (by omega) hdg
        have key := short_C b off n c i _ _ _ _ w hn hn20 hk hp (by omega) H1 H2 H3 H4k
        rw [hn2] at key
        exact key
end Go.Proofs.YbulkdwqcDoor
