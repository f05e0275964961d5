import Derived.Test.YbulkdwsuLaw
namespace Go.Proofs.Ybulkdwsu
open Go.RowKit Go.Maps

set_option maxRecDepth 20000 in
set_option maxHeartbeats 1000000 in
theorem law_diff (n0 n1 : ByteArray) (b0 b1 : Int) (a0 a1 : Option Addr) (l0 c0 l1 c1 : Nat) (w : World) (hb : l0 + l1 ≤ 1048576) (hn1 : 10 + n1.size ≤ 9223372036854775807)
    (HA0 : Hid (Sets a0 l0 w)) (HA1 : Hid (Sets a1 l1 w)) :
    Calls Yba.prog 3 #[.string n0, .string n1, .int .u16 b0, .int .u16 b1, .slice a0 l0 c0, .slice a1 l1 c1, .bool false] w fun e w' => e = .returned (.bool true) ∧ Below w.heap.size w w' := by
  have t0 : ¬ (1048576 : Int) < (l0 : Int) + (l1 : Int) := by omega
  have t1 : ¬ (1048576 : Int) < (l0 : Int) := by omega
  have t2 : ¬ (1048576 : Int) < (l1 : Int) := by omega
  obtain ⟨Z, hZ, hzero⟩ := zero27
  go_enter Yba.func3, Yba.ntmps3
  go_upto_region 3 with fail
  clear t0 t1 t2
  go_upto_region 7 with (go_at_call 4; refine (build_walk n0 b0 a0 l0 c0 w (by omega) HA0).mono ?_; rintro e w1 ⟨rfl, chd, hP, hsz1⟩)
  go_upto_region 8 with (go_at_call 4; refine (build_walk n1 b1 a1 l1 c1 w1 (by omega) (HA1.out.later hP.below (by omega))).mono ?_; rintro e w2 ⟨rfl, cho, hQ, hsz2⟩)
  have hD := hP.page.later hQ.below
  have hO := hQ.page
  have hbel : Below w.heap.size w w2 := hP.below.trans (hQ.below.mono (by omega))
  have hpo : w.heap.size + 1 ≠ w1.heap.size + 1 := by omega
  have hsz : w.heap.size ≤ w2.heap.size := by omega
  clear hP hQ hsz1 hsz2 HA0 HA1 hb
  generalize w.heap.size + 1 = pd at hD hpo ⊢
  generalize w1.heap.size + 1 = po at hO hpo ⊢
  generalize hmd : w.heap.size = md at hD
  generalize hmo : w1.heap.size = mo at hO
  clear hmd hmo w1
  obtain ⟨CD, hCD⟩ := row_of chd
  obtain ⟨CO, hCO⟩ := row_of cho
  have HRD : Hid (w2.rangeAt pd 2 CD) := hCD.of_cells hD.chars
  have hiD : Hid _ := hCD.info
  have hiO : Hid _ := hCO.info
  have XD : Hid (Page w2 pd md n0 chd) := hD
  have XO : Hid (Page w2 po mo n1 cho) := hO
  have YD : Hid (RowOf CD chd) := hCD
  have YO : Hid (RowOf CO cho) := hCO
  clear hD hO hCD hCO
  go_upto_region 9 with (first
    | (refine wpList_load_mid rfl 27 (.tmp 56) rfl pd 2 rfl CD _ HRD.out Yba.underlying27 rfl hiD.out ?_)
    | (refine wpList_store27 rfl (.tmp 17) (.tmp 57) rfl YD.out hZ rfl rfl ?_))
  have kD := YD.out.cells w2
  have bel3 := hbel.alloc hsz (.cells CD.toArray 27)
  have st3 : Below w2.heap.size w2 (w2.alloc (.cells CD.toArray 27)) := (Below.refl _ _).alloc (Nat.le_refl _) _
  have hsz3 : w2.heap.size < (w2.alloc (.cells CD.toArray 27)).heap.size := by simp
  have XD3 := XD.out.later st3
  have XO3 := XO.out.later st3
  clear XD XO st3 hbel HRD hiD
  generalize w2.alloc (.cells CD.toArray 27) = w3 at kD bel3 hsz3 XD3 XO3 ⊢
  have hszw : w.heap.size ≤ w3.heap.size := by omega
  generalize w2.heap.size = pc at kD hsz3 hsz ⊢
  clear w2
  have HRO : Hid (w3.rangeAt po 2 CO) := YO.out.of_cells XO3.chars
  have XD : Hid (Page w3 pd md n0 chd) := XD3
  have XO : Hid (Page w3 po mo n1 cho) := XO3
  have KD : Hid (∀ j, j < 256 → w3.cell? ⟨pc, j, none⟩ = some (.int .i32 (chd j))) := kD
  clear XD3 XO3 kD
  go_upto_region 10 with (first
    | (refine wpList_load_mid rfl 27 (.tmp 60) rfl po 2 rfl CO _ HRO.out Yba.underlying27 rfl hiO.out ?_)
    | (refine wpList_store27 rfl (.tmp 18) (.tmp 61) rfl YO.out hZ rfl rfl ?_))
  have kO := YO.out.cells w3
  have bel4 := bel3.alloc hszw (.cells CO.toArray 27)
  have st4 : Below w3.heap.size w3 (w3.alloc (.cells CO.toArray 27)) := (Below.refl _ _).alloc (Nat.le_refl _) _
  have hsz4 : w3.heap.size < (w3.alloc (.cells CO.toArray 27)).heap.size := by simp
  have XD4 := XD.out.later st4
  have XO4 := XO.out.later st4
  have kD : ∀ j, j < 256 → (w3.alloc (.cells CO.toArray 27)).cell? ⟨pc, j, none⟩ = some (.int .i32 (chd j)) := fun j hj => cell_later st4 (KD.out j hj)
  clear XD XO st4 bel3 HRO hiO KD
  generalize w3.alloc (.cells CO.toArray 27) = w4 at kD kO bel4 hsz4 XD4 XO4 ⊢
  have hszw' : w.heap.size ≤ w4.heap.size := by omega
  generalize w3.heap.size = qc at kO hsz3 hsz4 hszw ⊢
  clear w3 hsz hszw
  have XD : Hid (Page w4 pd md n0 chd) := XD4
  have XO : Hid (Page w4 po mo n1 cho) := XO4
  have KD : Hid (∀ j, j < 256 → w4.cell? ⟨pc, j, none⟩ = some (.int .i32 (chd j))) := kD
  have KO : Hid (∀ j, j < 256 → w4.cell? ⟨qc, j, none⟩ = some (.int .i32 (cho j))) := kO
  obtain ⟨L0, hl0⟩ := XD4.map.len
  obtain ⟨L1, hl1⟩ := XO4.map.len
  have HL0 : Hid (∀ (w' : World), w'.heap[md]? = w4.heap[md]? → ∀ ty, (Builtin.len_ #[26] ty #[.map (some md)]).run Yba.prog w' = .ok (.int .i64 (L0 : Int)) w') := hl0
  have HL1 : Hid (∀ (w' : World), w'.heap[mo]? = w4.heap[mo]? → ∀ ty, (Builtin.len_ #[26] ty #[.map (some mo)]).run Yba.prog w' = .ok (.int .i64 (L1 : Int)) w') := hl1
  have g0 := hl0 w4 rfl
  have g1 := hl1 w4 rfl
  have d0 := XD4.number
  have d1 := XD4.codes
  have o0 := XO4.number
  have o1 := XO4.codes
  clear XD4 XO4 kD kO hl0 hl1 hZ
  go_upto_region 14 with fail
  clear g0 g1 d0 d1 o0 o1
  go_upto_region 15 with (go_at_call 5; refine (coll_walk pd po mo n1 n0 chd cho md w4 hn1 hpo XD.out XO.out).mono ?_; rintro e w5 ⟨rfl, hC⟩)
  have XD5 := XD.out.later hC.below
  have XO5 := XO.out.later hC.below
  have kD5 : ∀ j, j < 256 → w5.cell? ⟨pc, j, none⟩ = some (.int .i32 (chd j)) := fun j hj => cell_later hC.below (KD.out j hj)
  have kO5 : ∀ j, j < 256 → w5.cell? ⟨qc, j, none⟩ = some (.int .i32 (cho j)) := fun j hj => cell_later hC.below (KO.out j hj)
  have hmd := XD.out.map.lt
  have hmo := XO.out.map.lt
  have g0 : ∀ n ty, (Builtin.len_ #[26] ty #[.map (some md)]).run Yba.prog (w5.drewN n) = .ok (.int .i64 (L0 : Int)) (w5.drewN n) := fun n => HL0.out _ (hC.below.block _ hmd)
  have g1 : ∀ n ty, (Builtin.len_ #[26] ty #[.map (some mo)]).run Yba.prog (w5.drewN n) = .ok (.int .i64 (L1 : Int)) (w5.drewN n) := fun n => HL1.out _ (hC.below.block _ hmo)
  have d0 := XD5.number
  have d1 := XD5.codes
  have o0 := XO5.number
  have o1 := XO5.codes
  have r0 : ∀ n, (Instr.loadAt 27 (.pointer (some ⟨pd, 2, none⟩))).run Yba.prog (w5.drewN n) = .ok (.agg CD.toArray) (w5.drewN n) := fun n => YD.out.load (fun j hj => by rw [World.cell?_drewN]; exact XD5.chars j hj)
  have r1 : ∀ n, (Instr.loadAt 27 (.pointer (some ⟨po, 2, none⟩))).run Yba.prog (w5.drewN n) = .ok (.agg CO.toArray) (w5.drewN n) := fun n => YO.out.load (fun j hj => by rw [World.cell?_drewN]; exact XO5.chars j hj)
  have r2 : ∀ n, (Instr.loadAt 27 (.pointer (some ⟨pc, 0, none⟩))).run Yba.prog (w5.drewN n) = .ok (.agg CD.toArray) (w5.drewN n) := fun n => YD.out.load (fun j hj => by rw [World.cell?_drewN, Nat.zero_add]; exact kD5 j hj)
  have r3 : ∀ n, (Instr.loadAt 27 (.pointer (some ⟨qc, 0, none⟩))).run Yba.prog (w5.drewN n) = .ok (.agg CO.toArray) (w5.drewN n) := fun n => YO.out.load (fun j hj => by rw [World.cell?_drewN, Nat.zero_add]; exact kO5 j hj)
  have q0 := same27 CD chd YD.out.get
  have q1 := same27 CO cho YO.out.get
  have HC : Hid (Col w4 pd (pre ++ n1) (fun b => fst cho 256 (chd b)) 256 w5) := hC
  clear hC XD5 XO5 kD5 kO5 hzero
  refine wp_region_quiet_lit (by kernel_rfl) (by kernel_rfl) ?_
  repeat (first
    | (go_big_quiet_want
       first
         | (refine quiet_load27 (.tmp 85) rfl (.agg CD.toArray) (by rintro _ ⟨n, rfl⟩; exact r0 n) ?_; go_simp)
         | (refine quiet_load27 (.tmp 17) rfl (.agg CD.toArray) (by rintro _ ⟨n, rfl⟩; exact r2 n) ?_; go_simp)
         | (refine quiet_load27 (.tmp 92) rfl (.agg CO.toArray) (by rintro _ ⟨n, rfl⟩; exact r1 n) ?_; go_simp)
         | (refine quiet_load27 (.tmp 18) rfl (.agg CO.toArray) (by rintro _ ⟨n, rfl⟩; exact r3 n) ?_; go_simp)
         | go_big_quiet_op
       go_big_quiet_on)
    | go_big_quiet_skip)
  refine wpQuiet_nil ?_
  rintro _ ⟨nq, rfl⟩
  clear r0 r1 r2 r3 q0 q1 g0 g1 d0 d1 o0 o1 HL0 HL1
  have hC6 := HC.out.drewN nq
  have kD6 : ∀ j, j < 256 → (w5.drewN nq).cell? ⟨pc, j, none⟩ = some (.int .i32 (chd j)) := fun j hj => cell_later hC6.below (KD.out j hj)
  have kO6 : ∀ j, j < 256 → (w5.drewN nq).cell? ⟨qc, j, none⟩ = some (.int .i32 (cho j)) := fun j hj => cell_later hC6.below (KO.out j hj)
  have bd0 := XD.out.bd
  have bd1 := XO.out.bd
  have bel6 : Below w.heap.size w (w5.drewN nq) := bel4.trans (hC6.below.mono hszw')
  clear HC XD XO KD KO YD YO bel4 hszw' hsz3 hsz4 hmd hmo
  obtain ⟨STR, hcat⟩ : ∃ STR : ByteArray, (⟨#[99, 111, 100, 101, 32, 112, 97, 103, 101, 32]⟩ : ByteArray) ++ n1 = STR := ⟨_, rfl⟩
  have hC6' : Col w4 pd STR (fun b => fst cho 256 (chd b)) 256 (w5.drewN nq) := by rw [← hcat]; exact hC6
  clear hC6
  generalize w5.drewN nq = w6 at hC6' kD6 kO6 bel6 ⊢
  have e0 := hC6'.data
  have e1 := hC6'.order
  have e2 : ∀ t, t < 256 → w6.cell? ⟨w4.heap.size, 2 + t, none⟩ = some (.int .u8 (((fst cho 256 (chd t)).getD 0 : Nat) : Int)) := fun t ht => by have := hC6'.places t ht; rw [if_pos ht] at this; exact this
  have e3 : ∀ t, t < 256 → w6.cell? ⟨w4.heap.size, 258 + t, none⟩ = some (.bool (fst cho 256 (chd t)).isSome) := fun t ht => by have := hC6'.placed t ht; rw [if_pos ht] at this; exact this
  generalize w4.heap.size = cb at e0 e1 e2 e3 ⊢
  clear hC6' w4
  have he := info29'
  have E2 : Hid (∀ t, t < 256 → w6.cell? ⟨cb, 2 + t, none⟩ = some (.int .u8 (((fst cho 256 (chd t)).getD 0 : Nat) : Int))) := e2
  have E3 : Hid (∀ t, t < 256 → w6.cell? ⟨cb, 258 + t, none⟩ = some (.bool (fst cho 256 (chd t)).isSome)) := e3
  have KD : Hid (∀ j, j < 256 → w6.cell? ⟨pc, j, none⟩ = some (.int .i32 (chd j))) := kD6
  have KO : Hid (∀ j, j < 256 → w6.cell? ⟨qc, j, none⟩ = some (.int .i32 (cho j))) := kO6
  have BD : Hid (∀ j, 0 ≤ chd j ∧ chd j ≤ 65535) := bd0
  have BO : Hid (∀ j, 0 ≤ cho j ∧ cho j ≤ 65535) := bd1
  have BEL : Hid (Below w.heap.size w w6) := bel6
  clear e2 e3 kD6 kO6 bd0 bd1 bel6
  go_upto_region 21 with fail
  clear he hcat e0 e1 hn1 hpo
  go_wp2_with fail
  go_loopw [24] (fun i wr => ∃ t : Nat, t ≤ 256 ∧ i = .int .i64 (t : Nat) ∧ ∃ n, wr = w6.drewN n) (fun i _ => 256 - (intOf i).toNat)
  case atStart => exact ⟨0, by omega, rfl, 0, rfl⟩
  case round =>
    obtain ⟨t, ht, rfl, n, rfl⟩ := hrel
    by_cases hlt : t < 256
    · have hlt' : (t : Int) < 256 := by omega
      go_wp2_with fail
      go_loopw [25, 26, 27] (fun x f i wr => ∃ j : Nat, j ≤ 256 ∧ x = .int .u8 0 ∧ f = .bool false ∧ i = .int .i64 (j : Nat) ∧ (∀ q, q < j → cho q ≠ chd t) ∧ ∃ n, wr = w6.drewN n) (fun _ _ i _ => 256 - (intOf i).toNat)
      case atStart => exact ⟨0, by omega, rfl, rfl, rfl, fun q hq => absurd hq (by omega), n, rfl⟩
      case round =>
        clear n
        obtain ⟨j, hj, rfl, rfl, rfl, hno, n, rfl⟩ := hrel
        have HNO : Hid (∀ q, q < j → cho q ≠ chd t) := hno
        clear hno
        have pl := E2.out t hlt
        have pd' := E3.out t hlt
        have kd := KD.out t hlt
        have bd := BD.out t
        by_cases hj' : j < 256
        · have hj'' : (j : Int) < 256 := by omega
          have ko := KO.out j hj'
          have bo := BO.out j
          by_cases heq : cho j = chd t
          · have hf := fst_first cho (chd t) 256 j hj' heq HNO.out
            rw [hf] at pl pd'
            simp only [Option.getD_some, Option.isSome_some] at pl pd'
            have hw8 : IntKind.u8.wrap (j : Int) = (j : Int) := by simp [IntKind.wrap, IntKind.bits, IntKind.signed]; omega
            clear hf HNO
            rw [heq] at ko
            clear bo heq
            generalize chd t = dt at kd ko bd
            go_upto_region 29 with fail
            go_quiet (fail)
            go_wp2_with fail
            exact ⟨⟨t + 1, by omega, by push_cast; rfl, _, rfl⟩, by show 256 - ((t : Int) + 1).toNat < 256 - (t : Int).toNat; omega⟩
          · have hb : (cho j == chd t) = false := by simpa using heq
            clear pl pd'
            obtain ⟨cj, hcj⟩ : ∃ cj, cho j = cj := ⟨_, rfl⟩
            obtain ⟨dt, hdt⟩ : ∃ dt, chd t = dt := ⟨_, rfl⟩
            have HEQ : Hid (cho j ≠ chd t) := heq
            rw [hcj] at ko bo hb heq
            rw [hdt] at kd bd hb heq
            clear hcj hdt
            go_upto_region 29 with fail
            go_quiet (fail)
            go_wp2_with fail
            refine ⟨⟨j + 1, by omega, rfl, rfl, by push_cast; rfl, fun q hq => ?_, _, rfl⟩, by show 256 - ((j : Int) + 1).toNat < 256 - (j : Int).toNat; omega⟩
            by_cases e : q = j
            · subst e; exact HEQ.out
            · exact HNO.out q (by omega)
        · obtain rfl : j = 256 := by omega
          rw [fst_none cho (chd t) 256 HNO.out] at pl pd'
          simp only [Option.getD_none, Option.isSome_none] at pl pd'
          clear kd bd
          go_wp2_with fail
          exact ⟨⟨t + 1, by omega, by push_cast; rfl, _, rfl⟩, by show 256 - ((t : Int) + 1).toNat < 256 - (t : Int).toNat; omega⟩
    · obtain rfl : t = 256 := by omega
      go_wp2_with fail
      go_ret
      refine ⟨rfl, ?_⟩
      have hb := BEL.out
      exact ⟨hb.os, hb.tape, hb.output, hb.size, hb.block⟩
end Go.Proofs.Ybulkdwsu
