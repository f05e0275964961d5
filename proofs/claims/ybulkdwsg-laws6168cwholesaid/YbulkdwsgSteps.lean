import Derived.Test.YbulkdwsgMake
namespace Go.Proofs.Ybulkdwsg
open Go.RowKit Go.MuLone

theorem fill_step {w wr : World} {n t : Nat} {z : Nat → Value} {f L : Nat → Int} (h : Sh w n (cont z (w.heap.size + 1) f t L) wr) (ht : t < n) :
    Sh w n (cont z (w.heap.size + 1) f (t + 1) L) ((((wr.setCell ⟨w.heap.size, t * 144, none⟩ (.pointer (some ⟨w.heap.size + 1, 0, none⟩))).setCell ⟨w.heap.size, t * 144 + 1, none⟩ (.int .i64 (t : Int))).setCell ⟨w.heap.size, t * 144 + 12, none⟩ (.int .u64 (f t))).setCell ⟨w.heap.size, t * 144 + 13, none⟩ (.int .i64 9223372036854775807)) := by
  have h2 := (((h.set ht (o0 := 0) (by omega) (.pointer (some ⟨w.heap.size + 1, 0, none⟩))).set ht (o0 := 1) (by omega) (.int .i64 (t : Int))).set ht (o0 := 12) (by omega) (.int .u64 (f t))).set ht (o0 := 13) (by omega) (.int .i64 9223372036854775807)
  rw [Nat.add_zero] at h2
  refine h2.congr fun j o hj ho => ?_
  unfold upd cont
  by_cases e : j = t
  · subst e
    by_cases o3 : o = 3
    · subst o3; simp
    · by_cases o0 : o = 0
      · subst o0; simp
      · by_cases o1 : o = 1
        · subst o1; simp
        · by_cases o12 : o = 12
          · subst o12; simp
          · by_cases o13 : o = 13
            · subst o13; simp
            · simp [o3, o0, o1, o12, o13]
  · have e1 : (j < t + 1) = (j < t) := by apply propext; omega
    simp [e, e1]

theorem lock_step {w wr : World} {n t : Nat} {z : Nat → Value} {f L : Nat → Int} (v : Int) (h : Sh w n (cont z (w.heap.size + 1) f n L) wr) (ht : t < n) :
    Sh w n (cont z (w.heap.size + 1) f n (fun j => if j = t then v else L j)) (wr.setCell ⟨w.heap.size, t * 144 + 3, none⟩ (.int .i32 v)) := by
  refine (h.set ht (o0 := 3) (by omega) (.int .i32 v)).congr fun j o hj ho => ?_
  unfold upd cont
  by_cases e : j = t
  · subst e
    by_cases o3 : o = 3
    · subst o3; simp
    · simp [o3]
  · simp [e]

theorem cont_L {z : Nat → Value} {E : Nat} {f L L' : Nat → Int} {t : Nat} (e : ∀ j, L j = L' j) : cont z E f t L = cont z E f t L' := by
  have : L = L' := funext e
  rw [this]

theorem cont_mu (z : Nat → Value) (E : Nat) (f L : Nat → Int) (t j : Nat) : cont z E f t L j 3 = .int .i32 (L j) := by simp [cont]

set_option maxRecDepth 20000 in
set_option maxHeartbeats 1000000 in
theorem unlockAll_any (w wr : World) (n : Nat) (z : Nat → Value) (f : Nat → Int) (hn : n ≤ 1024) (hS : Sh w n (cont z (w.heap.size + 1) f n (fun _ => 1)) wr) :
    Calls Yba.prog 5 #[.pointer (some ⟨w.heap.size + 1, 0, none⟩)] wr fun e w' => e = .returned (.tuple #[]) ∧ Sh w n (cont z (w.heap.size + 1) f n (fun _ => 0)) w' := by
  have heng := hS.eng
  have HS0 : Hid _ := hS
  clear hS
  go_enter Yba.func5, Yba.ntmps5
  go_wp2_with fail
  clear heng
  go_loopw [8] (fun i wx => ∃ t : Nat, t ≤ n ∧ i = .int .i64 (t : Nat) ∧ Sh w n (cont z (w.heap.size + 1) f n (fun j => if j < t then 0 else 1)) wx) (fun i _ => n - (intOf i).toNat)
  case atStart => exact ⟨0, by omega, rfl, by have := HS0.out; rwa [cont_L (L' := fun j => if j < 0 then 0 else 1) (fun j => by simp)] at this⟩
  case round =>
    rename_i wx
    obtain ⟨t, ht, rfl, hS⟩ := hrel
    have HS : Hid _ := hS
    have heng := hS.eng
    by_cases hlt : t < n
    · have hlt' : (t : Int) < (n : Int) := by omega
      have c3 := hS.cell t 3 hlt (by omega)
      rw [cont_mu, if_neg (by omega)] at c3
      have HC3 : Hid _ := c3
      have hz := hS.free (t * 144 + 3)
      clear hS c3
      go_wp2_with (go_at_call 7; refine (unlock_held Yba.muLib _ _ HC3.out hz).mono ?_; rintro e w' ⟨rfl, rfl⟩)
      go_roundw
      case rel =>
        refine ⟨t + 1, by omega, by go_num, ?_⟩
        have := lock_step 0 HS.out hlt
        rwa [cont_L (L' := fun j => if j < t + 1 then 0 else 1) (fun j => by
          by_cases h1 : j = t
          · simp [h1]
          · have e1 : (j < t + 1) = (j < t) := by apply propext; omega
            simp [h1, e1])] at this
      case measure => simp [intOf]; omega
    · obtain rfl : t = n := by omega
      go_wp2
      go_end0
      refine ⟨rfl, ?_⟩
      refine HS.out.congr fun j o hj ho => ?_
      unfold cont
      simp [hj]
end Go.Proofs.Ybulkdwsg
