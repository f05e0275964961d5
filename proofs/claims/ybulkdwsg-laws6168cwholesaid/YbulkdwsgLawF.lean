import Derived.Test.YbulkdwsgLaw
namespace Go.Proofs.Ybulkdwsg
open Go.RowKit Go.MuLone

set_option maxRecDepth 20000 in
set_option maxHeartbeats 4000000 in
theorem law_walkF (a0 : Int) (bk off len cap : Nat) (zv : Nat → Int) (n : Nat) (w : World) (HN : a0 % 1025 = (n : Int)) (hn : n ≤ 1024) (h0 : 0 ≤ a0) (hl1 : 1 ≤ len) (hl20 : len ≤ 1048576) (hbk : bk < w.heap.size)
    (HF : Hid (∀ k, k < len → w.cell? ⟨bk, off + k, none⟩ = some (.int .u64 (zv k)))) :
    Calls Yba.prog 3 #[.int .u16 a0, .slice (some ⟨bk, off, none⟩) len cap] w fun e w' => e = .returned (.bool true) ∧ Below w.heap.size w w' := by
  obtain ⟨C, z, hz, hCs, hC, hmk⟩ := make_shards n hn
  have HC : Hid _ := hC
  have HZ : Hid _ := hz
  clear hC hz
  obtain ⟨j57, hj57⟩ := info57
  have hneq := fun (w : World) (a : Addr) => Lib.run_neq_ptr_same (P := Yba.prog) w a Yba.underlying24 hj57
  clear hj57
  have hb1 : ¬ bk = w.heap.size := by omega
  have hb2 : ¬ w.heap.size = bk := by omega
  have hl0 : (0 : Int) < (len : Int) := by omega
  have hl00 : ((len : Int) == 0) = false := by simp; omega
  go_enter Yba.func3, Yba.ntmps3
  go_wp2_with fail
  go_loopw [7] (fun i wr => ∃ t : Nat, t ≤ n ∧ i = .int .i64 (t : Nat) ∧ Sh w n (cont z (w.heap.size + 1) (fun j => zv (j % len)) t (fun _ => 0)) wr) (fun i _ => n - (intOf i).toNat)
  case atStart => exact ⟨0, by omega, rfl, start_sh w n C z _ HZ.out HC.out⟩
  case round =>
    clear HN h0 hCs HC
    obtain ⟨t, ht, rfl, hS⟩ := hrel
    have HS : Hid _ := hS
    have heng := hS.eng
    by_cases hlt : t < n
    · have hlt' : (t : Int) < (n : Int) := by omega
      have c0 := hS.cell t 0 hlt (by omega)
      rw [Nat.add_zero] at c0
      have c1 := hS.cell t 1 hlt (by omega)
      have c12 := hS.cell t 12 hlt (by omega)
      have c13 := hS.cell t 13 hlt (by omega)
      have fz := hS.free
      have hfc := cell_later hS.below (HF.out (t % len) (Nat.mod_lt _ (by omega)))
      have hml : t % len < len := Nat.mod_lt _ (by omega)
      clear hS
      generalize cont z (w.heap.size + 1) (fun j => zv (j % len)) t (fun _ => 0) t 0 = v0 at c0
      generalize cont z (w.heap.size + 1) (fun j => zv (j % len)) t (fun _ => 0) t 1 = v1 at c1
      generalize cont z (w.heap.size + 1) (fun j => zv (j % len)) t (fun _ => 0) t 12 = v12 at c12
      generalize cont z (w.heap.size + 1) (fun j => zv (j % len)) t (fun _ => 0) t 13 = v13 at c13
      go_wp2
      go_roundw
      case rel => exact ⟨t + 1, by omega, by go_num, fill_step HS.out hlt⟩
      case measure => simp [intOf]; omega
    · obtain rfl : t = n := by omega
      clear heng hS
      go_wp2_with fail
      go_loopw [9] (fun i wx => ∃ r : Nat, r ≤ t ∧ i = .int .i64 (r : Nat) ∧ Sh w t (cont z (w.heap.size + 1) (fun j => zv (j % len)) t (fun j => if j < r then 1 else 0)) wx) (fun i _ => t - (intOf i).toNat)
      case atStart => exact ⟨0, by omega, rfl, by have := HS.out; rwa [cont_L (L' := fun j => if j < 0 then 1 else 0) (fun j => by simp)] at this⟩
      case round =>
        clear HS
        obtain ⟨r, hr, rfl, hS⟩ := hrel
        have HS : Hid _ := hS
        have heng := hS.eng
        by_cases hlt : r < t
        · have hlt' : (r : Int) < (t : Int) := by omega
          have c3 := hS.cell r 3 hlt (by omega)
          rw [cont_mu, if_neg (by omega)] at c3
          have HC3 : Hid _ := c3
          have hz := hS.free (r * 144 + 3)
          clear hS c3
          go_wp2_with (go_at_call 4; refine (lock_free Yba.muLib _ _ HC3.out hz).mono ?_; rintro e w' ⟨rfl, rfl⟩)
          go_roundw
          case rel =>
            refine ⟨r + 1, by omega, by go_num, ?_⟩
            have := lock_step 1 HS.out hlt
            rwa [cont_L (L' := fun j => if j < r + 1 then 1 else 0) (fun j => by
              by_cases h1 : j = r
              · simp [h1]
              · have e1 : (j < r + 1) = (j < r) := by apply propext; omega
                simp [h1, e1])] at this
          case measure => simp [intOf]; omega
        · obtain rfl : r = t := by omega
          have HS1 : Hid (Sh w r (cont z (w.heap.size + 1) (fun j => zv (j % len)) r (fun _ => 1)) _) := HS.out.congr fun j o hj ho => by unfold cont; simp [hj]
          clear heng hS HS
          go_wp2_with (go_at_call 5; refine (unlockAll_any w _ r z (fun j => zv (j % len)) hn HS1.out).mono ?_; rintro e w2 ⟨rfl, hS2⟩; have heng := hS2.eng; have HS2 : Hid _ := hS2; clear hS2)
          clear heng
          go_loopw [10] (fun i wx => ∃ q : Nat, q ≤ r ∧ i = .int .i64 (q : Nat) ∧ Sh w r (cont z (w.heap.size + 1) (fun j => zv (j % len)) r (fun _ => 0)) wx) (fun i _ => r - (intOf i).toNat)
          case atStart => exact ⟨0, by omega, rfl, HS2.out⟩
          case round =>
            clear HS2 HS1
            obtain ⟨q, hq, rfl, hS⟩ := hrel
            have HS : Hid _ := hS
            have heng := hS.eng
            by_cases hlt : q < r
            · have hlt' : (q : Int) < (r : Int) := by omega
              have c3 := hS.cell q 3 hlt (by omega)
              rw [cont_mu] at c3
              have HC3 : Hid _ := c3
              obtain ⟨e0, e1, e12, e13, e14⟩ := cont_at HZ.out (w.heap.size + 1) (fun j => zv (j % len)) (fun _ => 0) r q hlt
              have c0 := hS.cell q 0 hlt (by omega)
              rw [e0, Nat.add_zero] at c0
              have c1 := hS.cell q 1 hlt (by omega)
              rw [e1] at c1
              have c12 := hS.cell q 12 hlt (by omega)
              rw [e12] at c12
              have c13 := hS.cell q 13 hlt (by omega)
              rw [e13] at c13
              have c14 := hS.cell q 14 hlt (by omega)
              rw [e14] at c14
              have hz := hS.free (q * 144 + 3)
              have hfc := cell_later hS.below (HF.out (q % len) (Nat.mod_lt _ (by omega)))
              have hml : q % len < len := Nat.mod_lt _ (by omega)
              clear hS c3 e0 e1 e12 e13 e14
              go_wp2_with (first
                | (go_at_call 6; refine (tryLock_free _ _ _ HC3.out hz).mono ?_; rintro e w' ⟨rfl, rfl⟩)
                | (go_at_call 7; refine (unlock_held Yba.muLib _ _ (World.cell?_setCell_same _ _ _ HC3.out) ?_).mono ?_; rw [World.frozen?_setCell]; exact hz; rintro e w' ⟨rfl, rfl⟩))
              go_roundw
              case rel => exact ⟨q + 1, by omega, by go_num, relock HS.out hlt⟩
              case measure => simp [intOf]; omega
            · clear hS
              go_wp2
              go_ret
              exact ⟨rfl, HS.out.below⟩

end Go.Proofs.Ybulkdwsg
