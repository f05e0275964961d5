import Derived.Test.YbulkdwqcDoorShelf
import Derived.Test.YbulkdwqcDoorPlainA
import Derived.Laws.BitsAllLaws
import Derived.WalkKit
import Derived.WalkSpells
import Derived.WalkLawsBesides
namespace Go.Proofs.YbulkdwqcDoor
open Go.RowKit PlainA

theorem ret_int {k : IntKind} {a b : Int} (h : a = b) : Ending.returned (.int k a) = .returned (.int k b) := by rw [h]

/-- 'notDigits', as the walk spells it. -/
theorem nd_int (l : List Nat) (h : Bytes l) (hl : l.length = 8) :
    bits BinOp.and IntKind.u64 (bits BinOp.or IntKind.u64 (IntKind.u64.wrap (bits BinOp.andNot IntKind.u64 (bits BinOp.xor IntKind.u64 (leN l : Int) 3472328296227680304) 9259542123273814144 + 8536140394893047414))
      (bits BinOp.xor IntKind.u64 (leN l : Int) 3472328296227680304)) 9259542123273814144 = (leN (l.map PlainA.mark) : Int) := by
  have hlt : leN l < 18446744073709551616 := by have := leN_lt l h; rw [hl] at this; simpa using this
  have key := nd_gen l h (leN (List.replicate 8 48)) (leN (List.replicate 8 127)) (leN (List.replicate 8 118)) (leN (List.replicate 8 128)) (by rw [hl]) (by rw [hl]) (by rw [hl]) (by rw [hl])
  rw [e48, e127, e118, e128] at key
  have x1 := u64_xor_nat (leN l) 3472328296227680304 hlt (by omega)
  have hx : leN l ^^^ 3472328296227680304 < 2 ^ 64 := Nat.xor_lt_two_pow (by omega) (by omega)
  generalize leN l ^^^ 3472328296227680304 = X at key x1 hx
  have x2 := u64_andNot_nat X 9259542123273814144 (by omega) (by omega)
  have hy : X &&& 9187201950435737471 < 2 ^ 63 := Nat.and_lt_two_pow X (by omega)
  simp only [Nat.reduceSub] at x2
  generalize X &&& 9187201950435737471 = Y at key x2 hy
  have x3 : IntKind.u64.wrap ((Y : Int) + 8536140394893047414) = ((Y + 8536140394893047414 : Nat) : Int) := by rw [IntKind.wrap_u64]; omega
  have hz : Y + 8536140394893047414 < 18446744073709551616 := by omega
  generalize Y + 8536140394893047414 = Z at key x3 hz
  have x4 := u64_or_nat Z X hz (by omega)
  have ho : Z ||| X < 2 ^ 64 := Nat.or_lt_two_pow (by omega) (by omega)
  generalize Z ||| X = V at key x4 ho
  have x5 := u64_and_nat V 9259542123273814144 (by omega) (by omega)
  rw [key] at x5
  simp only [Int.cast_ofNat_Int] at x1 x2 x5
  rw [x1, x2, x3, x4, x5]

set_option maxHeartbeats 400000 in
theorem notDigits_any (l : List Nat) (h : Bytes l) (hl : l.length = 8) (w : World) :
    Calls Ybad.prog 11 #[.int .u64 (leN l : Int)] w fun e w' => e = .returned (.int .u64 (leN (l.map PlainA.mark) : Int)) ∧ w' = w := by
  have HN : Hid _ := nd_int l h hl
  generalize leN l = W at HN
  generalize leN (l.map PlainA.mark) = M at HN
  go_enter Ybad.func11, Ybad.ntmps11
  go_wp2
  go_ret
  exact ⟨ret_int HN.out, rfl⟩

set_option maxHeartbeats 400000 in
theorem bytesBelow_any (x k : Nat) (w : World) (hx : x < 18446744073709551616) (hk : Lib.ctz 64 x / 8 = k) (hk8 : k ≤ 8) (hT : TabAt 3 Lib.deBruijn64tab w) :
    Calls Ybad.prog 12 #[.int .u64 x] w fun e w' => e = .returned (.int .i64 k) ∧ w' = w := by
  have HK : Hid (Lib.ctz 64 x / 8 = k) := hk
  clear hk
  go_enter Ybad.func12, Ybad.ntmps12
  go_wp2_with (go_at_call 21; refine (Ybad.trailingZeros64 x hx _ (fun _ => hT)).mono ?_; rintro e w' ⟨rfl, rfl⟩)
  go_ret
  exact ⟨ret_int (by have := HK.out; unfold wrap64; omega), rfl⟩

/-- 'lowBytes n', n from 0 to 8. -/
def lowB (n : Nat) : Nat := 256 ^ n - 1

theorem low_int (n : Nat) (hn : n ≤ 8) : (18446744073709551615 : Int) / 2 ^ (64 - 8 * min (n : Int) 8).toNat = (lowB n : Int) := by
  match n, hn with
  | 0, _ => rfl
  | 1, _ => rfl
  | 2, _ => rfl
  | 3, _ => rfl
  | 4, _ => rfl
  | 5, _ => rfl
  | 6, _ => rfl
  | 7, _ => rfl
  | 8, _ => rfl

set_option maxHeartbeats 400000 in
theorem lowBytes_any (n : Nat) (w : World) (hn : n ≤ 8) :
    Calls Ybad.prog 13 #[.int .i64 n] w fun e w' => e = .returned (.int .u64 (lowB n : Int)) ∧ w' = w := by
  have HL : Hid _ := low_int n hn
  go_enter Ybad.func13, Ybad.ntmps13
  go_wp2
  go_ret
  exact ⟨ret_int HL.out, rfl⟩


theorem leZ_leN : ∀ l : List Nat, Lib.leZ (l.map Int.ofNat) = (leN l : Int)
  | [] => rfl
  | z :: r => by
    have := leZ_leN r
    simp only [List.map_cons, Lib.leZ, leN, Int.ofNat_eq_natCast]
    omega

set_option maxHeartbeats 400000 in
theorem word_any (b off n c i : Nat) (zs : List Nat) (w : World) (hn : i + 8 ≤ n) (hc : n ≤ c) (_hm : c ≤ maxLen) (hz : zs.length = c)
    (hcell : ∀ k, k < zs.length → w.cell? ⟨b, off + k, none⟩ = some (.int .u8 (zs.getD k 0 : Nat))) (hb : Bytes zs) :
    Calls Ybad.prog 10 #[.slice (some ⟨b, off, none⟩) n c, .int .i64 i] w fun e w' => e = .returned (.int .u64 (leN ((zs.drop i).take 8) : Int)) ∧ Below w.heap.size w w' := by
  unfold maxLen at _hm
  have hci : ¬ c = i := by omega
  have hin : i ≤ n := by omega
  have HC : Hid (∀ j, j < ((zs.drop i).map Int.ofNat).length → w.drew.cell? ((⟨b, off + i, none⟩ : Addr).add j) = some (.int .u8 (((zs.drop i).map Int.ofNat).getD j 0))) := by
    intro j hj
    simp only [List.length_map, List.length_drop] at hj
    have := hcell (i + j) (by omega)
    have ea : ((⟨b, off + i, none⟩ : Addr).add j) = ⟨b, off + (i + j), none⟩ := by
      unfold Addr.add
      split
      · rename_i h0; simp only [Addr.mk.injEq, true_and, and_true]; omega
      · simp only [Addr.mk.injEq, true_and, and_true]; omega
    rw [ea, World.cell?_drew, this]
    simp [List.getD_eq_getElem?_getD, List.getElem?_drop, List.getElem?_map]
    cases zs[i + j]? <;> rfl
  have HW : Hid (∀ z ∈ (zs.drop i).map Int.ofNat, (Lit.int .u8 z).wf = true) := by
    intro z hz'
    rw [List.mem_map] at hz'
    obtain ⟨y, hy, rfl⟩ := hz'
    have := hb y (List.mem_of_mem_drop hy)
    exact WalkArith.wf_u8 ⟨by simp, by simp; omega⟩
  have HE : Hid (Lib.leZ (((zs.drop i).map Int.ofNat).take 8) = (leN ((zs.drop i).take 8) : Int)) := by
    have := leZ_leN ((zs.drop i).take 8)
    rw [List.map_take] at this
    exact this
  have HL : Hid (8 ≤ ((zs.drop i).map Int.ofNat).length) := by
    show 8 ≤ _
    simp only [List.length_map, List.length_drop]; omega
  clear hcell hb hz
  generalize (zs.drop i).map Int.ofNat = Z at HC HW HE HL
  generalize leN ((zs.drop i).take 8) = V at HE
  go_enter Ybad.func10, Ybad.ntmps10
  go_wp2_with fail
  go_region_with (go_at_call 20; refine (Ybad.binary_LE_Uint64_z ⟨b, off + i, none⟩ (n - i) (c - i) Z _ (by omega) HL.out HC.out HW.out).mono ?_; rintro e w' ⟨rfl, hbel⟩)
  all_goals
    go_wp2
    go_ret
    exact ⟨ret_int HE.out, (Below.refl _ _).drew.trans hbel⟩
end Go.Proofs.YbulkdwqcDoor
