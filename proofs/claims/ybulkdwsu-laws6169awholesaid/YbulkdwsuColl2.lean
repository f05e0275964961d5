import Derived.Test.YbulkdwsuColl
import Derived.Deep.Cut
import Derived.Test.YbulkdwsuIdx
namespace Go.Proofs.Ybulkdwsu
open Go.RowKit Go.Maps

set_option maxRecDepth 20000 in
set_option maxHeartbeats 200000 in
theorem coll_walk (pd po m : Nat) (num numd : ByteArray) (chd cho : Nat → Int) (md : Nat) (w : World) (hnum : 10 + num.size ≤ 9223372036854775807) (hne : pd ≠ po) (hD : Page w pd md numd chd) (hO : Page w po m num cho) :
    Calls Yba.prog 5 #[.pointer (some ⟨pd, 0, none⟩), .pointer (some ⟨po, 0, none⟩)] w fun e w' => e = .returned (.pointer (some ⟨w.heap.size, 0, none⟩)) ∧ Col w pd (pre ++ num) (fun b => fst cho 256 (chd b)) 256 w' := by
  obtain ⟨j, hj, hs⟩ := info29
  obtain ⟨C1, hC1⟩ := hD.blk
  obtain ⟨C2, hC2⟩ := hO.blk
  have he := run_eql_ptr_other (P := Yba.prog) w Yba.underlying24 hj hs (a := ⟨pd, 0, none⟩) (b := ⟨po, 0, none⟩) (by intro e; simp only [Addr.mk.injEq, and_true] at e; exact hne e) hC1 hC2
  clear hj hs hC1 hC2
  have hnumc := hO.number
  obtain ⟨STR, hcat⟩ : ∃ STR : ByteArray, (⟨#[99, 111, 100, 101, 32, 112, 97, 103, 101, 32]⟩ : ByteArray) ++ num = STR := ⟨_, rfl⟩
  have HSTR : Hid (pre ++ num = STR) := hcat
  obtain ⟨CC, HCC⟩ : ∃ CC : Array Value, Hid (CC = #[Value.pointer (some ⟨pd, 0, none⟩), Value.string STR] ++ (Array.replicate 256 (Value.int .u8 0) ++ Array.replicate 256 (Value.bool false))) := ⟨_, rfl⟩
  have HB : Hid (Yba.prog.built 35 [(0, .pointer (some ⟨pd, 0, none⟩)), (1, .string STR)] = some CC) := (built_coll pd STR).trans (congrArg some HCC.out.symm)
  obtain ⟨CL, hCL, HCL⟩ : ∃ CL : List Value, CL.length = 256 ∧ Hid (CL = (List.range 256).map fun j => Value.int .i32 (chd j)) := ⟨_, by simp, rfl⟩
  have HR : Hid (∀ o, (w.alloc o).rangeAt pd 2 CL) := by
    intro o
    refine World.rangeAt_alloc ?_ o
    intro j v hv
    have hj : j < 256 := by rw [← hCL]; exact (List.getElem?_eq_some_iff.1 hv).1
    rw [HCL.out, List.getElem?_map, List.getElem?_range hj] at hv
    obtain rfl : Value.int .i32 (chd j) = v := Option.some.inj hv
    exact hD.chars j hj
  have hi27 : Hid ((Yba.prog.info? 27).map (·.size) = some CL.length) := by rw [hCL]; exact size27
  go_enter Yba.func5, Yba.ntmps5
  go_upto_region 3 with fail
  go_upto_region 4 with (refine wpList_build_two rfl 35 0 1 (.tmp 11) (.tmp 16) rfl (.pointer (some ⟨pd, 0, none⟩)) (.string STR) rfl rfl CC HB.out ?_)
  clear he hnumc hcat HB
  go_wp2_with (refine wpList_load_mid rfl 27 (.tmp 21) rfl pd 2 rfl CL _ (HR.out _) Yba.underlying27 rfl hi27.out ?_)
  clear hi27
  go_loopw [23] (fun i wr => ∃ t : Nat, t ≤ 256 ∧ i = .int .i64 (t : Nat) ∧ Col w pd STR (fun b => fst cho 256 (chd b)) t wr) (fun i _ => 256 - (intOf i).toNat)
  case atStart => exact ⟨0, by omega, rfl, start_col w pd STR _ CC HCC.out⟩
  case round =>
    obtain ⟨t, ht, rfl, hC⟩ := hrel
    have HC : Hid (Col w pd STR (fun b => fst cho 256 (chd b)) t wr) := hC
    by_cases hlt : t < 256
    · have hlt' : (t : Int) < 256 := by omega
      have hO' := hO.later hC.below
      have cm := hO'.codes
      have hbd := hD.bd t
      have hwf : (Lit.int .i32 (chd t)).wf = true := WalkArith.wf_i32 (by omega)
      have hlook := (hO'.map.of_heap (w' := wr.drew) rfl).look hwf
      have hidx := idx27 CL t hlt (chd t) (by rw [HCL.out, List.getElem?_map, List.getElem?_range hlt]; rfl)
      have c0 := hC.places t hlt
      have c1 := hC.placed t hlt
      rw [if_neg (Nat.lt_irrefl t)] at c0 c1
      have f0 := hC.free (2 + t)
      have f1 := hC.free (258 + t)
      have HD : Hid (Page w pd md numd chd) := hD
      have HO : Hid (Page w po m num cho) := hO
      clear hD hO hO' hC HR HCC
      obtain ⟨gv, hgv⟩ : ∃ gv, fst cho 256 (chd t) = gv := ⟨_, rfl⟩
      have HGV : Hid (fst cho 256 (chd t) = gv) := hgv
      rw [hgv] at hlook
      clear hgv
      go_upto_region 7 with fail
      go_region
      all_goals go_wp2_with fail
      all_goals
        refine ⟨⟨t + 1, by omega, by push_cast; rfl, ?_⟩, by show 256 - ((t : Int) + 1).toNat < 256 - (t : Int).toNat; omega⟩
        have hs := (HC.out.step hlt).drew
        simp only [HGV.out] at hs
        exact hs
    · have hge : ¬ (t : Int) < 256 := by omega
      obtain rfl : t = 256 := by omega
      clear hD hO hC HR HCC
      go_wp2_with fail
      go_ret
      exact ⟨rfl, by rw [HSTR.out]; exact HC.out⟩
end Go.Proofs.Ybulkdwsu
