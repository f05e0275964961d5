import Derived.Test.YbulkdwqcDoorModelB
import Derived.Laws.CopyOwn
import Derived.Deep.QuietTactic
import Derived.BigQuiet
namespace Go.Proofs.YbulkdwqcDoor
open Go.RowKit PlainA

set_option maxHeartbeats 400000 in
theorem law_big (a : Option Addr) (n c : Nat) (i : Int) (w : World) (hn : 1048576 < n) (hm : n ≤ 9223372036854775807) :
    Calls Ybad.prog 3 #[.slice a n c, .int .i64 i] w fun e w' => e = .returned (.bool true) ∧ w' = w := by
  go_enter Ybad.func3, Ybad.ntmps3
  go_wp2
  go_ret
  exact ⟨rfl, rfl⟩

set_option maxHeartbeats 400000 in
theorem law_neg (a : Option Addr) (n c : Nat) (i : Int) (w : World) (hn : n ≤ 1048576) (hi : i < 0) :
    Calls Ybad.prog 3 #[.slice a n c, .int .i64 i] w fun e w' => e = .returned (.bool true) ∧ w' = w := by
  go_enter Ybad.func3, Ybad.ntmps3
  go_wp2
  go_ret
  exact ⟨rfl, rfl⟩

set_option maxHeartbeats 400000 in
theorem law_nil (i : Int) (w : World) (hi : 0 ≤ i) (hi63 : i ≤ 9223372036854775807) :
    Calls Ybad.prog 3 #[.slice none 0 0, .int .i64 i] w fun e w' => e = .returned (.bool true) ∧ w' = w := by
  have hne := fun (w : World) (a : Option Addr) (n c : Nat) => run_neq_slice_nil_any (P := Ybad.prog) w 22 5 a n c 0 0 Ybad.underlying22
  go_enter Ybad.func3, Ybad.ntmps3
  go_wp2_with (first
    | (go_at_call 5; refine (short_short none 0 0 i _ (by omega) hi hi63 (by omega)).mono ?_; rintro e w' ⟨rfl, rfl⟩; unfold ret4)
    | (go_at_call 6; refine (model_short none 0 0 i _ (by omega) hi hi63 (by omega)).mono ?_; rintro e w' ⟨rfl, rfl⟩; unfold ret4))
  go_loop [14] (fun t => t = .int .i64 0) (fun _ => 0)
  case atStart => rfl
  case round =>
    obtain rfl := hrel
    go_wp2
    go_ret
    exact ⟨rfl, rfl⟩

theorem Ybad.info5 : (Ybad.prog.info? 5).map (fun i => (i.zero, i.size, i.bytes)) = some (some (Value.int .u8 0), 1, 1) := by kernel_rfl

theorem make_any (n : Nat) (w : World) (hn : n ≤ 1048576) : (Instr.makeSlice 22 (.int .i64 (n : Int)) (.int .i64 (n : Int))).run Ybad.prog w = .ok (.slice (some ⟨w.heap.size, 0, none⟩) n n) (w.alloc (.cells (List.replicate n (Value.int .u8 0)).toArray 5)) := by
  obtain ⟨i0, hi, hz0, hz1, hz2⟩ := info_parts Ybad.info5
  have := run_make (P := Ybad.prog) w 22 5 i0 _ Ybad.underlying22 hi hz0 .i64 .i64 (n : Int) (n : Int) (by omega) (by omega) (by rw [hz2]; omega) (by omega)
  rw [this, hz1]
  have e : madeCells (Value.cells (.int .u8 0)) ((n : Int).toNat * 1) = (List.replicate n (Value.int .u8 0)).toArray := by
    have := toList_madeCells_one (.int .u8 0) n
    rw [Nat.mul_one, Int.toNat_natCast]
    apply Array.ext'
    rw [show Value.cells (.int .u8 0) = #[Value.int .u8 0] from rfl, this]
  rw [e, Int.toNat_natCast]

theorem swEnd_shape (l : List Nat) (i : Nat) : ∃ (x f e : Int) (ok : Bool), swEnd l i = ret4 x f e ok := by
  unfold swEnd
  split
  · exact ⟨_, _, _, _, rfl⟩
  split
  · split
    · exact ⟨_, _, _, _, rfl⟩
    split
    · exact ⟨_, _, _, _, rfl⟩
    · exact ⟨_, _, _, _, rfl⟩
  split
  · exact ⟨_, _, _, _, rfl⟩
  · exact ⟨_, _, _, _, rfl⟩

theorem Ybad.size5 : (Ybad.prog.info? 5).map (·.size) = some 1 := by kernel_rfl

theorem cells_of {w w1 w2 : World} {n : Nat} {g : Nat → Nat} {Z CS : List Value} (hg1 : Hid (w1.heap[w.heap.size]? = some (.cells (splice Z 0 CS).toArray 5 (0, 0)))) (_hb1 : Below w.heap.size w w1) (hb2 : Below w1.heap.size w1 w2)
    (hCS : CS.length = n) (hZ : Z.length = n) (HS : Hid (∀ k, k < n → CS[k]? = some (.int .u8 (g k : Nat)))) : ∀ k, k < n → w2.cell? ⟨w.heap.size, k, none⟩ = some (.int .u8 (g k : Nat)) := by
  intro k hk
  have e : splice Z 0 CS = CS := by unfold splice; simp; omega
  have hg := hg1.out
  rw [e] at hg
  have h1 : w1.cell? ⟨w.heap.size, k, none⟩ = some (.int .u8 (g k : Nat)) := by
    have := HS.out k hk
    simp [World.cell?, hg, this]
  exact cell_later hb2 h1

set_option maxHeartbeats 400000 in
theorem law_walk (b off n c : Nat) (i x f en : Int) (ok : Bool) (g : Nat → Nat) (CS : List Value) (w : World) (hn : n ≤ 1048576) (hi : 0 ≤ i) (hi63 : i ≤ 9223372036854775807)
    (hCS : CS.length = n) (H1 : Hid (∀ v ∈ CS, v.oneCell' = true)) (HS : Hid (∀ k, k < n → CS[k]? = some (.int .u8 (g k : Nat))))
    (HC : Hid (∀ k, k < n → w.cell? ⟨b, off + k, none⟩ = some (.int .u8 (g k : Nat))))
    (H5 : Hid (∀ w1, Below w.heap.size w w1 → Calls Ybad.prog 5 #[.slice (some ⟨b, off, none⟩) n c, .int .i64 i] w1 fun e w' => e = .returned (.tuple #[.int .u64 x, .int .i64 f, .int .i64 en, .bool ok]) ∧ Below w1.heap.size w1 w'))
    (H6 : Hid (∀ w1, (∀ k, k < n → w1.cell? ⟨w.heap.size, k, none⟩ = some (.int .u8 (g k : Nat))) → Calls Ybad.prog 6 #[.slice (some ⟨w.heap.size, 0, none⟩) n n, .int .i64 i] w1 fun e w' => e = .returned (.tuple #[.int .u64 x, .int .i64 f, .int .i64 en, .bool ok]) ∧ w' = w1)) :
    Calls Ybad.prog 3 #[.slice (some ⟨b, off, none⟩) n c, .int .i64 i] w fun e w' => e = .returned (.bool true) ∧ Below w.heap.size w w' := by
  have hne := fun (w : World) (a : Option Addr) (n c : Nat) => run_neq_slice_nil_any (P := Ybad.prog) w 22 5 a n c 0 0 Ybad.underlying22
  have hmk := fun (w : World) => make_any n w hn
  obtain ⟨Z, HZ⟩ : ∃ Z : List Value, Hid (Z = List.replicate n (Value.int .u8 0)) := ⟨_, rfl⟩
  have hZl : Z.length = n := by rw [HZ.out]; simp
  rw [← HZ.out] at hmk
  have HG : Hid ((w.alloc (.cells Z.toArray 5)).heap[w.heap.size]? = some (.cells Z.toArray 5 (0, 0))) := by show (w.heap.push _)[w.heap.size]? = _; simp
  have hmin : Hid (CS.length = Nat.min n n) := by simp [Hid, hCS]
  have HP : Hid (0 < CS.length → (some ⟨w.heap.size, 0, none⟩ : Option Addr) = some ⟨w.heap.size, 0, none⟩ ∧ ∃ ad, (some ⟨b, off, none⟩ : Option Addr) = some ad ∧ ∀ j v, CS[j]? = some v → (w.alloc (.cells Z.toArray 5)).cell? (ad.add j) = some v) := by
    intro _
    refine ⟨rfl, _, rfl, fun j v hj => ?_⟩
    have hjn : j < n := by rw [← hCS]; exact (List.getElem?_eq_some_iff.1 hj).1
    have e1 := HC.out j hjn
    rw [HS.out j hjn] at hj
    obtain rfl := Option.some.inj hj
    rw [Addr.add_lit]
    exact (World.cell?_alloc_lt w _ _ (World.block_lt_of_cell? _ _ e1)).trans e1
  have hfit : Hid (0 + CS.length ≤ Z.length) := by show _ ≤ _; omega
  have HB : Hid (Below w.heap.size w (w.alloc (.cells Z.toArray 5))) := (Below.refl _ _).alloc (Nat.le_refl _) _
  go_enter Ybad.func3, Ybad.ntmps3
  go_wp2_with (first
    | (refine wpList_copy_splice rfl (.tmp 27) (.tmp 28) 22 22 rfl 5 Ybad.underlying22 Ybad.size5 (some ⟨w.heap.size, 0, none⟩) (some ⟨b, off, none⟩) n n n c rfl rfl w.heap.size 0 Z 5 HG.out CS hmin.out HP.out hfit.out H1.out w.heap.size w HB.out (Nat.le_refl _) ?_; intro w1 hg1 hb1)
    | (go_at_call 5; refine (H5.out _ hb1).mono ?_; rintro e w2 ⟨rfl, hb2⟩)
    | (go_at_call 6; refine (H6.out _ ?_).mono ?_; exact (cells_of hg1 hb1 hb2 hCS hZl HS); rintro e w' ⟨rfl, rfl⟩))
  have hbb : Below w.heap.size w w' := hb1.trans (hb2.mono hb1.size)
  have HX : Hid (∀ k, k < n → w'.cell? ⟨b, off + k, none⟩ = some (.int .u8 (g k : Nat))) := fun k hk => cell_later hbb (HC.out k hk)
  have HY : Hid (∀ k, k < n → w'.cell? ⟨w.heap.size, k, none⟩ = some (.int .u8 (g k : Nat))) := cells_of hg1 hb1 hb2 hCS hZl HS
  clear hg1 hb1 hb2 HB HP HG hmk hne
  go_loopw [14] (fun t wr => ∃ k : Nat, k ≤ n ∧ t = .int .i64 k ∧ ∃ nq, wr = w'.drewN nq) (fun t _ => n - (intOf t).toNat)
  case atStart => exact ⟨0, by omega, rfl, 0, rfl⟩
  case round =>
    obtain ⟨k, hk, rfl, nq, rfl⟩ := hrel
    by_cases hlt : k < n
    · have hx := HX.out k hlt
      have hy := HY.out k hlt
      have hlt' : (k : Int) < (n : Int) := by omega
      go_wp2
      go_quiet (fail)
      go_wp2
      go_roundw
      case rel => exact ⟨k + 1, by omega, by go_num, _, rfl⟩
      case measure => simp [intOf]; omega
    · go_wp2
      go_ret
      exact ⟨rfl, hbb.trans (below_drewN (Below.refl _ _) _)⟩
end Go.Proofs.YbulkdwqcDoor
