import Derived.Test.YbulkdwqcDoorModelF
import Derived.Laws.CopyOwn
import Derived.Deep.QuietTactic
import Derived.BigQuiet
namespace Go.Proofs.YbulkdwqcDoor.LawC
open Go.RowKit PlainA PlainC

set_option maxHeartbeats 400000 in
theorem law_big (a : Option Addr) (n c : Nat) (u : Int) (w : World) (hn : 1048576 < n) (hm : n ≤ 9223372036854775807) :
    Calls Ybad.prog 4 #[.slice a n c, .int .u64 u] w fun e w' => e = .returned (.bool true) ∧ w' = w := by
  go_enter Ybad.func4, Ybad.ntmps4
  go_wp2
  go_ret
  exact ⟨rfl, rfl⟩

theorem info5 : (Ybad.prog.info? 5).map (fun i => (i.zero, i.size, i.bytes)) = some (some (Value.int .u8 0), 1, 1) := by kernel_rfl

theorem make_any (n : Nat) (w : World) (hn : n ≤ 1048576) : (Instr.makeSlice 22 (.int .i64 (n : Int)) (.int .i64 (n : Int))).run Ybad.prog w = .ok (.slice (some ⟨w.heap.size, 0, none⟩) n n) (w.alloc (.cells (List.replicate n (Value.int .u8 0)).toArray 5)) := by
  obtain ⟨i0, hi, hz0, hz1, hz2⟩ := info_parts info5
  have := run_make (P := Ybad.prog) w 22 5 i0 _ Ybad.underlying22 hi hz0 .i64 .i64 (n : Int) (n : Int) (by omega) (by omega) (by rw [hz2]; omega) (by omega)
  rw [this, hz1]
  have e : madeCells (Value.cells (.int .u8 0)) ((n : Int).toNat * 1) = (List.replicate n (Value.int .u8 0)).toArray := by
    have := toList_madeCells_one (.int .u8 0) n
    rw [Nat.mul_one, Int.toNat_natCast]
    apply Array.ext'
    rw [show Value.cells (.int .u8 0) = #[Value.int .u8 0] from rfl, this]
  rw [e, Int.toNat_natCast]

theorem size5 : (Ybad.prog.info? 5).map (·.size) = some 1 := by kernel_rfl

theorem cells_of {w w1 w2 : World} {n : Nat} {g : Nat → Nat} {Z CS : List Value} (hg1 : Hid (w1.heap[w.heap.size]? = some (.cells (splice Z 0 CS).toArray 5 (0, 0)))) (_hb1 : Below w.heap.size w w1) (hb2 : Below w1.heap.size w1 w2)
    (hCS : CS.length = n) (hZ : Z.length = n) (HS : Hid (∀ k, k < n → CS[k]? = some (.int .u8 (g k : Nat)))) : ∀ k, k < n → w2.cell? ⟨w.heap.size, k, none⟩ = some (.int .u8 (g k : Nat)) := by
  intro k hk
  have e : splice Z 0 CS = CS := by unfold splice; simp; omega
  have hg := hg1.out
  rw [e] at hg
  have h1 : w1.cell? ⟨w.heap.size, k, none⟩ = some (.int .u8 (g k : Nat)) := by
    have := HS.out k hk
    simp [World.cell?, hg, this]
  exact cell_later hb2 h1


theorem bits_run (x : Nat) (w : World) : (callFunc 9 #[.float .f64 x]).run Ybad.prog w = .ok (.value (.int .u64 (x : Int))) w := by kernel_rfl

set_option maxHeartbeats 400000 in
theorem law_walk (b off n c i : Nat) (u : Int) (x : Nat) (kd en : Int) (ok : Bool) (g : Nat → Nat) (CS : List Value) (w : World) (hn : n ≤ 1048576) (hu0 : 0 ≤ u) (hi : i ≤ n) (HU : u % ((n : Int) + 1) = (i : Int))
    (hCS : CS.length = n) (H1 : Hid (∀ v ∈ CS, v.oneCell' = true)) (HS : Hid (∀ k, k < n → CS[k]? = some (.int .u8 (g k : Nat))))
    (HC : Hid (∀ k, k < n → w.cell? ⟨b, off + k, none⟩ = some (.int .u8 (g k : Nat))))
    (H5 : Hid (∀ w1, Below w.heap.size w w1 → Calls Ybad.prog 7 #[.slice (some ⟨b, off, none⟩) n c, .int .i64 (i : Nat)] w1 fun e w' => e = .returned (.tuple #[.float .f64 x, .int .i64 kd, .int .i64 en, .bool ok]) ∧ w' = w1))
    (H6 : Hid (∀ w1, (∀ k, k < n → w1.cell? ⟨w.heap.size, k, none⟩ = some (.int .u8 (g k : Nat))) → Calls Ybad.prog 8 #[.slice (some ⟨w.heap.size, 0, none⟩) n n, .int .i64 (i : Nat)] w1 fun e w' => e = .returned (.tuple #[.float .f64 x, .int .i64 kd, .int .i64 en, .bool ok]) ∧ w' = w1)) :
    Calls Ybad.prog 4 #[.slice (some ⟨b, off, none⟩) n c, .int .u64 u] w fun e w' => e = .returned (.bool true) ∧ Below w.heap.size w w' := by
  have hmk := fun (w : World) => make_any n w hn
  have hfb := fun (w : World) => bits_run x w
  obtain ⟨Z, HZ⟩ : ∃ Z : List Value, Hid (Z = List.replicate n (Value.int .u8 0)) := ⟨_, rfl⟩
  have hZl : Z.length = n := by rw [HZ.out]; simp
  rw [← HZ.out] at hmk
  have HG : Hid ((w.alloc (.cells Z.toArray 5)).heap[w.heap.size]? = some (.cells Z.toArray 5 (0, 0))) := by show (w.heap.push _)[w.heap.size]? = _; simp
  have hmin : Hid (CS.length = Nat.min n n) := by simp [Hid, hCS]
  have HP : Hid (0 < CS.length → (some ⟨w.heap.size, 0, none⟩ : Option Addr) = some ⟨w.heap.size, 0, none⟩ ∧ ∃ ad, (some ⟨b, off, none⟩ : Option Addr) = some ad ∧ ∀ j v, CS[j]? = some v → (w.alloc (.cells Z.toArray 5)).cell? (ad.add j) = some v) := by
    intro _
    refine ⟨rfl, _, rfl, fun j v hj => ?_⟩
    have hjn : j < n := by rw [← hCS]; exact (List.getElem?_eq_some_iff.1 hj).1
    have e1 := HC.out j hjn
    rw [HS.out j hjn] at hj
    obtain rfl := Option.some.inj hj
    rw [Addr.add_lit]
    exact (World.cell?_alloc_lt w _ _ (World.block_lt_of_cell? _ _ e1)).trans e1
  have hfit : Hid (0 + CS.length ≤ Z.length) := by show _ ≤ _; omega
  have HB : Hid (Below w.heap.size w (w.alloc (.cells Z.toArray 5))) := (Below.refl _ _).alloc (Nat.le_refl _) _
  go_enter Ybad.func4, Ybad.ntmps4
  go_wp2_with (first
    | (refine wpList_copy_splice rfl (.tmp 29) (.tmp 30) 22 22 rfl 5 Ybad.underlying22 size5 (some ⟨w.heap.size, 0, none⟩) (some ⟨b, off, none⟩) n n n c rfl rfl w.heap.size 0 Z 5 HG.out CS hmin.out HP.out hfit.out H1.out w.heap.size w HB.out (Nat.le_refl _) ?_; intro w1 hg1 hb1)
    | (go_at_call 7; refine (H5.out _ hb1).mono ?_; rintro e w' ⟨rfl, rfl⟩)
    | (go_at_call 8; refine (H6.out _ ?_).mono ?_; exact (cells_of hg1 hb1 (Below.refl _ _) hCS hZl HS); rintro e w' ⟨rfl, rfl⟩))
  have hbb : Below w.heap.size w w' := hb1
  have HX : Hid (∀ k, k < n → w'.cell? ⟨b, off + k, none⟩ = some (.int .u8 (g k : Nat))) := fun k hk => cell_later hbb (HC.out k hk)
  have HY : Hid (∀ k, k < n → w'.cell? ⟨w.heap.size, k, none⟩ = some (.int .u8 (g k : Nat))) := cells_of hg1 hb1 (Below.refl _ _) hCS hZl HS
  clear hg1 hb1 HB HP HG hmk hfb
  go_loopw [15] (fun t wr => ∃ k : Nat, k ≤ n ∧ t = .int .i64 k ∧ ∃ nq, wr = w'.drewN nq) (fun t _ => n - (intOf t).toNat)
  case atStart => exact ⟨0, by omega, rfl, 0, rfl⟩
  case round =>
    obtain ⟨k, hk, rfl, nq, rfl⟩ := hrel
    by_cases hlt : k < n
    · have hx := HX.out k hlt
      have hy := HY.out k hlt
      have hlt' : (k : Int) < (n : Int) := by omega
      go_wp2
      go_quiet (fail)
      go_wp2
      go_roundw
      case rel => exact ⟨k + 1, by omega, by go_num, _, rfl⟩
      case measure => simp [intOf]; omega
    · go_wp2
      go_ret
      exact ⟨rfl, hbb.trans (below_drewN (Below.refl _ _) _)⟩

set_option maxHeartbeats 400000 in
theorem read_empty (a : Option Addr) (c : Nat) (w : World) :
    Calls Ybad.prog 7 #[.slice a 0 c, .int .i64 0] w fun e w' => e = .returned (.tuple #[.float .f64 0, .int .i64 0, .int .i64 0, .bool false]) ∧ w' = w := by
  go_enter Ybad.func7, Ybad.ntmps7
  go_wp2_with (first
    | (go_at_call 15; refine (cutShort_empty _ _ _).mono ?_; rintro e w' ⟨rfl, rfl⟩)
    | (go_at_call 17; refine (has_short _ 0 _ 0 _ ?_ ?_ ?_).mono ?_; omega; omega; omega; rintro e w' ⟨rfl, rfl⟩))
  all_goals
    refine bodyPost_ret (results4C rfl _ _ _) rfl ?_
    exact ⟨rfl, rfl⟩

set_option maxHeartbeats 400000 in
theorem law_empty (a : Option Addr) (c : Nat) (u : Int) (w : World) (_hu0 : 0 ≤ u) :
    Calls Ybad.prog 4 #[.slice a 0 c, .int .u64 u] w fun e w' => e = .returned (.bool true) ∧ Below w.heap.size w w' := by
  have hmk := fun (w : World) => make_any 0 w (by omega)
  have hfb := fun (w : World) => bits_run 0 w
  simp only [Int.natCast_zero, List.replicate_zero] at hmk hfb
  go_enter Ybad.func4, Ybad.ntmps4
  go_wp2_with (first
    | (refine wpList_copy_nothing rfl (.tmp 29) (.tmp 30) 22 22 rfl 5 Ybad.underlying22 size5 (some ⟨w.heap.size, 0, none⟩) a 0 0 0 c rfl rfl rfl ?_)
    | (go_at_call 7; refine (read_empty _ _ _).mono ?_; rintro e w' ⟨rfl, rfl⟩)
    | (go_at_call 8; refine (modelC_end _ 0 _ _ (by omega)).mono ?_; rintro e w' ⟨rfl, rfl⟩; unfold ret4f))
  go_loop [15] (fun t => t = .int .i64 0) (fun _ => 0)
  case atStart => rfl
  case round =>
    obtain rfl := hrel
    go_wp2
    go_ret
    exact ⟨rfl, (Below.refl _ _).alloc (Nat.le_refl _) _⟩
end Go.Proofs.YbulkdwqcDoor.LawC
