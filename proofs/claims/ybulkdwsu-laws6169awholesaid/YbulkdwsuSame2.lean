import Derived.Test.YbulkdwsuLaw
namespace Go.Proofs.Ybulkdwsu
open Go.RowKit Go.Maps

set_option maxRecDepth 20000 in
set_option maxHeartbeats 1000000 in
theorem law_same (n0 n1 : ByteArray) (b0 b1 : Int) (a0 a1 : Option Addr) (l0 c0 l1 c1 : Nat) (w : World) (hb : l0 + l1 ≤ 1048576)
    (HA0 : Hid (Sets a0 l0 w)) :
    Calls Yba.prog 3 #[.string n0, .string n1, .int .u16 b0, .int .u16 b1, .slice a0 l0 c0, .slice a1 l1 c1, .bool true] w fun e w' => e = .returned (.bool true) ∧ Below w.heap.size w w' := by
  have t0 : ¬ (1048576 : Int) < (l0 : Int) + (l1 : Int) := by omega
  have t1 : ¬ (1048576 : Int) < (l0 : Int) := by omega
  have t2 : ¬ (1048576 : Int) < (l1 : Int) := by omega
  obtain ⟨Z, hZ, hzero⟩ := zero27
  go_enter Yba.func3, Yba.ntmps3
  go_upto_region 3 with fail
  clear t0 t1 t2
  go_upto_region 8 with (go_at_call 4; refine (build_walk n0 b0 a0 l0 c0 w (by omega) HA0).mono ?_; rintro e w2 ⟨rfl, chd, hP, hsz1⟩)
  have hD := hP.page
  have hbel : Below w.heap.size w w2 := hP.below
  have hsz : w.heap.size ≤ w2.heap.size := by omega
  clear hP hsz1 HA0 hb
  generalize w.heap.size + 1 = pd at hD ⊢
  generalize hmd : w.heap.size = md at hD
  clear hmd
  obtain ⟨CD, hCD⟩ := row_of chd
  have HRD : Hid (w2.rangeAt pd 2 CD) := hCD.of_cells hD.chars
  have hiD : Hid _ := hCD.info
  have XD : Hid (Page w2 pd md n0 chd) := hD
  have YD : Hid (RowOf CD chd) := hCD
  clear hD hCD
  go_upto_region 9 with (first
    | (refine wpList_load_mid rfl 27 (.tmp 56) rfl pd 2 rfl CD _ HRD.out Yba.underlying27 rfl hiD.out ?_)
    | (refine wpList_store27 rfl (.tmp 17) (.tmp 57) rfl YD.out hZ rfl rfl ?_))
  have kD := YD.out.cells w2
  have bel3 := hbel.alloc hsz (.cells CD.toArray 27)
  have st3 : Below w2.heap.size w2 (w2.alloc (.cells CD.toArray 27)) := (Below.refl _ _).alloc (Nat.le_refl _) _
  have hsz3 : w2.heap.size < (w2.alloc (.cells CD.toArray 27)).heap.size := by simp
  have XD3 := XD.out.later st3
  clear XD st3 hbel HRD
  generalize w2.alloc (.cells CD.toArray 27) = w3 at kD bel3 hsz3 XD3 ⊢
  have hszw : w.heap.size ≤ w3.heap.size := by omega
  generalize w2.heap.size = pc at kD hsz3 hsz ⊢
  clear w2
  have HRO : Hid (w3.rangeAt pd 2 CD) := YD.out.of_cells XD3.chars
  have XD : Hid (Page w3 pd md n0 chd) := XD3
  have KD : Hid (∀ j, j < 256 → w3.cell? ⟨pc, j, none⟩ = some (.int .i32 (chd j))) := kD
  clear XD3 kD
  go_upto_region 10 with (first
    | (refine wpList_load_mid rfl 27 (.tmp 60) rfl pd 2 rfl CD _ HRO.out Yba.underlying27 rfl hiD.out ?_)
    | (refine wpList_store27 rfl (.tmp 18) (.tmp 61) rfl YD.out hZ rfl rfl ?_))
  have kO := YD.out.cells w3
  have bel4 := bel3.alloc hszw (.cells CD.toArray 27)
  have st4 : Below w3.heap.size w3 (w3.alloc (.cells CD.toArray 27)) := (Below.refl _ _).alloc (Nat.le_refl _) _
  have XD4 := XD.out.later st4
  have kD : ∀ j, j < 256 → (w3.alloc (.cells CD.toArray 27)).cell? ⟨pc, j, none⟩ = some (.int .i32 (chd j)) := fun j hj => cell_later st4 (KD.out j hj)
  clear XD st4 bel3 HRO hiD KD
  generalize w3.alloc (.cells CD.toArray 27) = w4 at kD kO bel4 XD4 ⊢
  generalize w3.heap.size = qc at kO hsz3 hszw ⊢
  clear w3 hsz hszw hsz3
  obtain ⟨L0, hl0⟩ := XD4.map.len
  have g0 := hl0 w4 rfl
  have g1 : ∀ n ty, (Builtin.len_ #[26] ty #[.map (some md)]).run Yba.prog (w4.drewN n) = .ok (.int .i64 (L0 : Int)) (w4.drewN n) := fun n => hl0 _ rfl
  have d0 := XD4.number
  have d1 := XD4.codes
  have r0 : ∀ n, (Instr.loadAt 27 (.pointer (some ⟨pd, 2, none⟩))).run Yba.prog (w4.drewN n) = .ok (.agg CD.toArray) (w4.drewN n) := fun n => YD.out.load (fun j hj => by rw [World.cell?_drewN]; exact XD4.chars j hj)
  have r2 : ∀ n, (Instr.loadAt 27 (.pointer (some ⟨pc, 0, none⟩))).run Yba.prog (w4.drewN n) = .ok (.agg CD.toArray) (w4.drewN n) := fun n => YD.out.load (fun j hj => by rw [World.cell?_drewN, Nat.zero_add]; exact kD j hj)
  have r3 : ∀ n, (Instr.loadAt 27 (.pointer (some ⟨qc, 0, none⟩))).run Yba.prog (w4.drewN n) = .ok (.agg CD.toArray) (w4.drewN n) := fun n => YD.out.load (fun j hj => by rw [World.cell?_drewN, Nat.zero_add]; exact kO j hj)
  have q0 := same27 CD chd YD.out.get
  clear XD4 kD kO hl0 hZ hzero
  go_upto_region 15 with (go_at_call 5; refine (coll_same pd w4).mono ?_; rintro e w5 ⟨rfl, rfl⟩)
  refine wp_region_quiet_lit (by kernel_rfl) (by kernel_rfl) ?_
  repeat (first
    | (go_big_quiet_want
       first
         | (refine quiet_load27 (.tmp 85) rfl (.agg CD.toArray) (by rintro _ ⟨n, rfl⟩; exact r0 n) ?_; go_simp)
         | (refine quiet_load27 (.tmp 17) rfl (.agg CD.toArray) (by rintro _ ⟨n, rfl⟩; exact r2 n) ?_; go_simp)
         | (refine quiet_load27 (.tmp 92) rfl (.agg CD.toArray) (by rintro _ ⟨n, rfl⟩; exact r0 n) ?_; go_simp)
         | (refine quiet_load27 (.tmp 18) rfl (.agg CD.toArray) (by rintro _ ⟨n, rfl⟩; exact r3 n) ?_; go_simp)
         | go_big_quiet_op
       go_big_quiet_on)
    | go_big_quiet_skip)
  refine wpQuiet_nil ?_
  rintro _ ⟨nq, rfl⟩
  have BEL : Hid _ := bel4
  clear r0 r2 r3 q0 g0 g1 d0 d1 bel4
  go_wp2_with fail
  go_ret
  refine ⟨rfl, ?_⟩
  have hb := BEL.out
  exact ⟨hb.os, hb.tape, hb.output, hb.size, hb.block⟩
end Go.Proofs.Ybulkdwsu
