import Derived.Test.YbulkdwqcDoorRows
import Derived.Test.YbulkdwqcDoorTie
import Derived.Test.YbulkdwqcDoorCards
import Derived.Test.YbulkdwqcDoorLawC2
import Derived.ProofKit
import Derived.LaidMore
import Derived.OpenShut
import Derived.OpenVars
import Derived.Lib.LaidTab
import Derived.ChangeOld
import Derived.Stop.Joined
import Derived.SevenTiedAt
namespace Go.Proofs.YbulkdwqcDoor.ProofC
open Go.ChangeShapes Go.WideShapes Go.ChangeAt Go.RowKit

theorem own : ownKnob Ybad.prog.godebug = none := by kernel_rfl
theorem laidOut : laidOutB Ybad.prog = true := by kernel_rfl

/-- the table as the row lists it. -/
def tabF {H : Type} (zs : List Nat) : DataW H := .agg (zs.map fun z => .lit (.float .f64 z))
/-- the listed variable's name. -/
def tabName : String := (Rows.lawS6164CWholeRow.laid.head?.map (·.1)).getD ""
theorem laidEq : Rows.lawS6164CWholeRow.laid = [(tabName, tabF tab)] := by kernel_rfl
theorem gTab : Ybad.prog.globalNamed tabName = some 2 := by kernel_rfl
theorem tTab : (Ybad.prog.globals[2]?).map (·.type) = some 47 := by kernel_rfl
theorem cells5 : Ybad.prog.cellsOf 5 = 1 := by kernel_rfl
theorem cells27 : Ybad.prog.cellsOf 27 = 1 := by kernel_rfl
theorem cells47 : Ybad.prog.cellsOf 47 = 23 := by kernel_rfl

theorem trod_float {H : Type} {enc : TypeId × Value → H} {P : Program} {w : World} {base : Nat} {sp : Nat → Bool} {held : Bool} {fuel : Nat} {t : TypeId} {cs : List Value} {x : DataW H × List MemPlace} {k : FloatKind}
    (ht : P.underlying t = some (.float k)) (h : DataW.trod enc P w base sp held fuel t cs = some x) : ∃ n, cs = [.float k n] ∧ x = (.lit (.float k n), []) := by
  cases fuel with
  | zero => simp [DataW.trod] at h
  | succ n =>
    unfold DataW.trod at h
    rw [ht] at h
    split at h <;> simp_all

/-- AN ARRAY OF FLOATS THAT READS AS THE TABLE HOLDS THE TABLE's NUMBERS, CELL FOR CELL. -/
theorem cells_of_tabF {H : Type} {enc : TypeId × Value → H} {P : Program} {w : World} {base : Nat} {sp : Nat → Bool} {held : Bool} {fuel : Nat} {t e : TypeId} {n : Nat} {cs : List Value} {zs : List Nat} {p : List MemPlace}
    (ht : P.underlying t = some (.array n e)) (he : P.underlying e = some (.float .f64)) (hce : P.cellsOf e = 1) (hct : P.cellsOf t = n)
    (h : DataW.trod enc P w base sp held fuel t cs = some (tabF zs, p)) : cs = zs.map fun z => Value.float .f64 z := by
  cases fuel with
  | zero => simp [DataW.trod] at h
  | succ fuel =>
    simp only [DataW.trod, ht, hce, hct, Nat.mul_one] at h
    split at h
    · rename_i hl
      obtain ⟨xs, hm, hx⟩ := Option.map_eq_some_iff.1 h
      have hxs : xs.map (·.1) = zs.map fun z => (DataW.lit (.float .f64 z) : DataW H) := by
        have := congrArg Prod.fst hx
        simpa [tabF] using this
      have hxl : xs.length = n := by simpa using Lib.mapM_length hm
      have hzl : zs.length = n := by
        have := congrArg List.length hxs
        simp at this
        omega
      apply List.ext_getElem?
      intro i
      by_cases hi : i < n
      · obtain ⟨b, hb, hf⟩ := Lib.mapM_at hm i i (by simp [hi])
        obtain ⟨z, hc, rfl⟩ := trod_float he hf
        have h1 : cs[i]? = some (.float .f64 z) := by
          have := congrArg (·[0]?) hc
          simpa [List.getElem?_take, List.getElem?_drop] using this
        have h2 : (xs.map (·.1))[i]? = some (DataW.lit (.float .f64 z) : DataW H) := by simp [hb]
        rw [hxs] at h2
        simp only [List.getElem?_map, Option.map_eq_some_iff, DataW.lit.injEq, Lit.float.injEq, true_and] at h2
        obtain ⟨z', hz', rfl⟩ := h2
        simp [h1, hz']
      · rw [List.getElem?_eq_none (by omega), List.getElem?_eq_none (by simp; omega)]
    · cases h

/-- The door's own heap meets the condition. -/
theorem door_met (os : Os) (args : Array Value) : laidMetH Ybad.prog Rows.lawS6164CWholeRow.laid ((World.doorLaid Ybad.prog 19 os).forCall (fun _ _ => 0) ⟨#[], args, []⟩).memory :=
  laidMetH_of_parts3 (fuel := 8) (laidMet_of_run' 8 (by kernel_rfl) (by kernel_rfl)) (by kernel_rfl) (by kernel_rfl)

/-- WHAT THE CONDITION GIVES THE WALKS: the table's cells. -/
theorem of_laid {W : World} (h : laidMetH Ybad.prog Rows.lawS6164CWholeRow.laid W) : PowAt W := by
  rw [MakeChecks.laidMetH_plain _ _ _ (by kernel_rfl), laidEq] at h
  obtain ⟨ps, ⟨g', t', cs, fuel, p, q, hg', ht', hvar, hd, _, _⟩, _⟩ := h
  obtain rfl := Option.some.inj (gTab.symm.trans hg')
  obtain rfl := Option.some.inj (tTab.symm.trans ht')
  have hcs := cells_of_tabF Ybad.underlying47 Ybad.underlying27 cells27 cells47 hd
  intro j hj
  have := World.var?_cell gTab hvar j
  rw [this, ← Array.getElem?_toList, hcs, List.getElem?_map, List.getD_eq_getElem?_getD]
  have hj' : j < tab.length := hj
  rw [List.getElem?_eq_getElem hj']
  rfl

set_option maxRecDepth 100000 in
theorem lifted (os : Os) (started : os.Started) (H : Type) (enc : TypeId × Value → H) :
    ReturnsInHanded {} Ybad.checked os 4 .any (fun w args => (Rows.lawS6164CWholeSpec.pre enc Ybad.prog Ybad.f4 [] false w args ∧ laidMetH Ybad.prog Rows.lawS6164CWholeRow.laid w) ∧ sizedMet enc Ybad.prog Ybad.f4 (OpenSpec.ofChange Rows.lawS6164CWholeSpec) false w args)
      (Rows.lawS6164CWholeSpec.post enc Ybad.prog Ybad.f4 false true false false) := by
  refine returnsInHanded_of_change_and (C := Ybad.checked) (X := fun w _ => laidMetH Ybad.prog Rows.lawS6164CWholeRow.laid w) (fun _ _ _ hh h => h.of_heap hh) own started (by kernel_rfl) Ybad.func4
    (ChangeSpec.witness_shaped (enc := enc) (C := Ybad.checked) (os := os) (X := fun w _ => laidMetH Ybad.prog Rows.lawS6164CWholeRow.laid w) false (World.doorLaid Ybad.prog 19 os) #[.slice none 0 0, .int .u64 0] 8 rfl (World.shaped_of_RefB (by kernel_rfl) (by kernel_rfl)) (by kernel_rfl) (by kernel_rfl) (by kernel_rfl) (door_met os _)) ?_
  intro W base args ds gs before hval0 hW _ _ hL _
  have hval : ∀ (j : Nat) t v, Ybad.f4.params[j]? = some t → args[j]? = some v → Value.okWide Ybad.prog W .any base t v := hval0
  have hW' := hW
  obtain ⟨p, q, hA0, hV, rfl, hfz, hnd⟩ := hW
  have hA : DataW.TrodAll enc Ybad.prog W 0 (fun _ => true) true Ybad.f4.params.toList args.toList ds p := hA0
  rw [Ybad.params4] at hA hval
  obtain ⟨v0, v1, d0, d1, p0, p1, rfl, rfl, rfl, h0, h1⟩ := trodAll_two hA
  have hV0 : DataW.TrodVars enc Ybad.prog W (fun _ => true) Rows.lawS6164CWholeSpec.vars gs q := hV
  obtain ⟨gx, tx, csx, fx, dx, px, rfl, _, _, _, _, _⟩ := trodVars_one hV
  obtain ⟨u, rfl, rfl, rfl, wu⟩ := open_int Ybad.underlying23 (hval 1 23 v1 rfl rfl) h1
  obtain ⟨a0, len, cap, rfl⟩ := okWide_slice Ybad.underlying22 (hval 0 22 v0 rfl rfl)
  have k0 := h0
  have lt0 : ∀ x ∈ p0, x.block < W.heap.size := by obtain ⟨m, hm⟩ := k0; exact DataW.trod_lt m _ _ _ hm
  obtain ⟨z0, r0⟩ : ∃ zs, LawC.IsRow W a0 len cap zs := by
    obtain ⟨fuel, hf⟩ := h0
    rcases open_ints Ybad.underlying22 Ybad.underlying5 cells5 hf with ⟨hcs, _⟩ | ⟨x, l, c, zs, hcs, _, hl, hm, hz, _, hcell, hwz⟩
    · simp [Value.cells] at hcs
      obtain ⟨rfl, rfl, rfl⟩ := hcs
      exact ⟨[], .inl ⟨rfl, rfl, rfl, rfl⟩⟩
    · simp [Value.cells] at hcs
      obtain ⟨rfl, rfl, rfl⟩ := hcs
      exact ⟨zs, .inr ⟨_, rfl, hl, hm, by simpa using hz, hcell, hwz⟩⟩
  clear hA0 hval0
  have hT := of_laid hL
  have hu0 : 0 ≤ u := by
    simp [Lit.wf, IntKind.min, IntKind.max, IntKind.signed, IntKind.bits] at wu
    omega
  refine (LawC.lawC_any a0 len cap z0 u W r0 hu0 hT).mono fun e W' ⟨he, bel⟩ => ?_
  subst he
  exact ⟨_, rfl, _, _, _, [], _, q, hW', trodAll_mk1 (shut_bool Ybad.underlying4 _), (trodAll_mk2 (Below.trod laidOut (by kernel_rfl) (of_decide_eq_true (by kernel_rfl)) k0 bel lt0) (shut_int Ybad.underlying23 wu)), Below.trodVars laidOut bel (by kernel_rfl) hV0, bel.frame _, fun h => by cases h⟩

theorem row_holds : Rows.LawS6164CWholeSaid :=
  OpenClaim.holds_of_wide 4 Ybad.f4 rfl rfl rfl rfl rfl rfl rfl ⟨rfl, rfl, rfl, rfl, rfl⟩ rfl rfl rfl rfl rfl (by kernel_rfl) Ybad.func4 (by kernel_rfl)
    (of_decide_eq_true (by kernel_rfl)) (by unfold Func.isWrapper; first | (rw [if_pos (by decide +kernel)]; kernel_rfl) | (rw [if_neg (by decide +kernel)]; exact ⟨rfl, rfl⟩))
    (fun os started H enc _ => lifted os started H enc)

/-- THE CARD. -/
theorem proved : Rows.LawS6164CWholeCardSaid :=
  Claim7.holds_tied_plain_at .later [] [.data] true Rows.lawS6164CWholeCard.stood.harness false
    row_holds (fun _ h => by cases h) (by kernel_rfl) (fun _ h => by cases h) lawS6164CWhole_row_tie rfl ⟨rfl, rfl⟩ (by kernel_rfl) rfl
    (fun f fn hf hfn => by
      obtain rfl : f = 4 := Option.some.inj ((show Ybad.prog.funcNamed Rows.lawS6164CWholeRow.func = some 4 by kernel_rfl).symm.trans hf) |>.symm
      obtain rfl : fn = Ybad.f4 := (Option.some.inj (Ybad.func4.symm.trans hfn)).symm
      exact ⟨by kernel_rfl, fun j t ht => by
        rw [Ybad.params4] at ht
        have hm : t ∈ [22, 23] := by simpa using Array.mem_of_getElem? ht
        have hall : ([22, 23].all fun u => !Ybad.prog.wantsStandIn u) = true := by kernel_rfl
        exact (show Ybad.prog.wantsStandIn t = false by simpa using List.all_eq_true.1 hall t hm)⟩)
    (by kernel_rfl)
end Go.Proofs.YbulkdwqcDoor.ProofC
