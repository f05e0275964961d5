import Derived.Test.YbulkdwsuState
import Derived.BigRegion
namespace Go.Proofs.Ybulkdwsu
open Go.RowKit Go.Maps

theorem u16_i32 (x : Int) : 0 ≤ wrap32 (IntKind.u16.wrap x) ∧ wrap32 (IntKind.u16.wrap x) ≤ 65535 := by
  have h : IntKind.u16.wrap x = x % 65536 := by simp [IntKind.wrap, IntKind.bits, IntKind.signed]
  rw [h]
  unfold wrap32
  omega

set_option maxRecDepth 20000 in
set_option maxHeartbeats 1000000 in
theorem build_walk (num : ByteArray) (base : Int) (a : Option Addr) (len cap : Nat) (w : World) (hl : len ≤ 1048576)
    (HA : Hid (∀ i, i < len → ∃ (bk off : Nat) (at_ : Nat) (r : Int), a = some ⟨bk, off, none⟩ ∧ bk < w.heap.size ∧ w.cell? ⟨bk, off + i * 2, none⟩ = some (.int .u8 (at_ : Int)) ∧ w.cell? ⟨bk, off + i * 2 + 1, none⟩ = some (.int .u16 r) ∧ at_ < 256 ∧ 0 ≤ r ∧ r ≤ 65535)) :
    Calls Yba.prog 4 #[.string num, .int .u16 base, .slice a len cap] w fun e w' => e = .returned (.pointer (some ⟨w.heap.size + 1, 0, none⟩)) ∧ ∃ ch, Pg w num ch 256 (fst ch 256) w' ∧ w.heap.size + 2 ≤ w'.heap.size := by
  have hmm := make_map
  obtain ⟨PG, HPG⟩ : ∃ PG : Array Value, Hid (PG = #[Value.string num, Value.map (some w.heap.size)] ++ Array.replicate 256 (Value.int .i32 0)) := ⟨_, rfl⟩
  have HB : Hid (Yba.prog.built 29 [(0, .string num), (1, .map (some w.heap.size))] = some PG) := (built_page num w.heap.size).trans (congrArg some HPG.out.symm)
  go_enter Yba.func4, Yba.ntmps4
  go_wp2_with (refine wpList_build_two rfl 29 0 1 (.tmp 14) (.tmp 15) rfl _ _ rfl rfl PG HB.out ?_)
  go_loopw [8] (fun i wr => ∃ t : Nat, t ≤ 256 ∧ i = .int .i64 (t : Nat) ∧ w.heap.size + 2 ≤ wr.heap.size ∧ ∃ ch, Pg w num ch 0 (fun _ => none) wr) (fun i _ => 256 - (intOf i).toNat)
  case atStart => exact ⟨0, by omega, rfl, by simp, _, start_pg w num PG HPG.out⟩
  case round =>
    clear HB HPG hmm
    obtain ⟨t, ht, rfl, hsz, ch, hP⟩ := hrel
    have HP : Hid _ := hP
    by_cases hlt : t < 256
    · have hlt' : (t : Int) < 256 := by omega
      have c0 := hP.chars t hlt
      have fz := hP.free (2 + t)
      clear hP
      generalize ch t = v0 at c0
      go_wp2
      refine ⟨⟨t + 1, by omega, by go_num, by simp; omega, _, HP.out.set hlt (u16_i32 _)⟩, by simp [intOf]; omega⟩
    · have hge : ¬ (t : Int) < 256 := by omega
      clear hlt ht
      go_wp2_with fail
      go_loopw [9] (fun i wx => ∃ t : Nat, t ≤ len ∧ i = .int .i64 (t : Nat) ∧ w.heap.size + 2 ≤ wx.heap.size ∧ ∃ ch, Pg w num ch 0 (fun _ => none) wx) (fun i _ => len - (intOf i).toNat)
      case atStart => exact ⟨0, by omega, rfl, hsz, _, HP.out⟩
      case round =>
        clear HP hsz hP
        obtain ⟨q, hq, rfl, hsz, ch, hP⟩ := hrel
        have HP : Hid _ := hP
        by_cases hlt : q < len
        · obtain ⟨bk, off, at_, r, rfl, hbk, k0, k1, hat, hr⟩ := HA.out q hlt
          have hlt' : (q : Int) < (len : Int) := by omega
          have k0' := cell_later hP.below k0
          have k1' := cell_later hP.below k1
          have c0 := hP.chars at_ hat
          have fz := hP.free (2 + at_)
          have hat' : (at_ : Int) < 256 := by omega
          have hb1 : ¬ bk = w.heap.size + 1 := by omega
          clear hP k0 k1
          generalize ch at_ = v0 at c0
          go_wp2
          go_region
          go_wp2
          go_roundw
          case rel => exact ⟨q + 1, by omega, by go_num, by simp; omega, _, (HP.out.set hat hr).drew⟩
          case measure => simp [intOf]; omega
        · have hge2 : ¬ (q : Int) < (len : Int) := by omega
          clear hlt hq HA
          go_wp2_with fail
          go_loopw [10] (fun i wx => ∃ t : Nat, t ≤ 256 ∧ i = .int .i64 (t : Nat) ∧ w.heap.size + 2 ≤ wx.heap.size ∧ Pg w num ch t (fst ch t) wx) (fun i _ => 256 - (intOf i).toNat)
          case atStart => exact ⟨0, by omega, rfl, hsz, HP.out⟩
          case round =>
            clear HP hsz hP
            obtain ⟨n, hn, rfl, hsz, hP⟩ := hrel
            have HP : Hid _ := hP
            by_cases hlt : n < 256
            · have hlt' : (n : Int) < 256 := by omega
              have c0 := hP.chars n hlt
              have cm := hP.codes
              have hbd := hP.bd n
              have hwf : (Lit.int .i32 (ch n)).wf = true := WalkArith.wf_i32 (by omega)
              have hlook := hP.map.look hwf
              obtain ⟨D, hown, hD⟩ := hP.map
              have HOWN : Hid (wr.ownsMap Yba.prog 21 (plainElem Yba.prog 5) w.heap.size n D) := hown
              have HD : Hid _ := hD
              clear hP hown hD
              cases hfound : (fst ch n (ch n)).isSome with
              | true =>
                rw [hfound] at hlook
                go_wp2
                go_roundw
                case rel => exact ⟨n + 1, by omega, by go_num, hsz, HP.out.withMap (by rw [fst_found ch n hfound]; exact HP.out.map.mono (by omega))⟩
                case measure => simp [intOf]; omega
              | false =>
                rw [hfound] at hlook
                go_wp2_with (at_mapUpdate; refine wpList_mapUpdate_own _ rfl _ _ _ 26 rfl 21 5 keyed Yba.underlying26 _ w.heap.size n D rfl HOWN.out (by unfold maxLen; omega) _ _ _ rfl rfl (keyOf_int_mk Yba.underlying21 hwf) _ [] (plainElem_int Yba.underlying5 (WalkArith.wf_u8 (by omega))) ?_; intro w1 hown1 hgrow1)
                refine ⟨⟨n + 1, by omega, by go_num, by have := hgrow1.size; omega, HP.out.turn hgrow1 hsz ?_⟩, by simp [intOf]; omega⟩
                have hm := mapAt_put (v := n) HOWN.out.isMap HD.out hown1
                rw [← fst_new ch n hfound] at hm
                exact hm
            · obtain rfl : n = 256 := by omega
              go_wp2
              go_ret
              exact ⟨rfl, ch, HP.out, hsz⟩
end Go.Proofs.Ybulkdwsu
