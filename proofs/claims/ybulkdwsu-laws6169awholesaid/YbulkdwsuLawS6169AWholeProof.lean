import Derived.Test.YbulkdwsuRows
import Derived.Test.YbulkdwsuDiff
import Derived.Test.YbulkdwsuSame2
import Derived.WalkKit
import Derived.ProofKit
import Derived.OpenShut
import Derived.ShutString
import Derived.ChangeOld
import Derived.SizedLaws
import Derived.Deep.SlicePairs
import Derived.Below
namespace Go.Proofs.Ybulkdwsu.lawS6169AWhole
open Go.ChangeShapes Go.WideShapes Go.ChangeAt Go.RowKit
open Go.ChangeMaps (open_string shut_string)

theorem own : ownKnob Yba.prog.godebug = none := by kernel_rfl
theorem laidOut : laidOutB Yba.prog = true := by kernel_rfl
theorem bytes38 : Yba.prog.bytesOf 38 = 4 := by kernel_rfl

/-- A LIST OF SETTINGS THAT CAME IN. -/
theorem open_sets {H : Type} {enc : TypeId × Value → H} {W : World} {spare : Nat → Bool} {held : Bool} {a : Option Addr} {len cap : Nat} {d : DataW H} {ps : List MemPlace} {fuel : Nat}
    (hf : DataW.trod enc Yba.prog W 0 spare held fuel 23 [.slice a len cap] = some (d, ps)) :
    Sets a len W ∧ (len = 0 ∨ ∃ es sp, d = .slice es sp ∧ es.length = len) := by
  rcases Go.Deep.open_slice_pairs Yba.underlying23 Yba.underlying38 (by kernel_rfl) rfl rfl (by kernel_rfl) (by kernel_rfl) hf with ⟨hcs, _⟩ | ⟨x, l, c, m, n, V0, V1, D0, D1, P0, P1, hcs, _, hl, _, hm, hx, hcell⟩
  · simp only [List.cons.injEq, Value.slice.injEq, and_true] at hcs
    obtain ⟨rfl, rfl, rfl⟩ := hcs
    exact ⟨fun i hi => absurd hi (by omega), .inl rfl⟩
  · simp only [List.cons.injEq, Value.slice.injEq, and_true] at hcs
    obtain ⟨rfl, rfl, rfl⟩ := hcs
    simp only [Prod.mk.injEq] at hx
    refine ⟨?_, .inr ⟨_, _, hx.1, by simp⟩⟩
    intro i hi
    have him : i < m := by rw [hm]; split <;> omega
    obtain ⟨h0, h1, h2, h3⟩ := hcell i him
    obtain ⟨u, e0, _, w0⟩ := DataW.trod_int Yba.underlying5 h2
    obtain ⟨r, e1, _, w1⟩ := DataW.trod_int Yba.underlying22 h3
    simp only [List.cons.injEq, and_true] at e0 e1
    rw [e0] at h0
    rw [e1] at h1
    have hspot : x.spot = none := by
      have := (hcell 0 (by omega)).1
      rw [Nat.zero_mul, Addr.add_zero'] at this
      exact World.cell?_spot this
    obtain ⟨bk, off, spot⟩ := x
    obtain rfl : spot = none := hspot
    rw [Addr.add_lit] at h0 h1
    have hb0 : 0 ≤ u ∧ u ≤ 255 := by
      simp [Lit.wf, IntKind.min, IntKind.max, IntKind.signed, IntKind.bits] at w0
      exact w0
    have hb1 : 0 ≤ r ∧ r ≤ 65535 := by
      simp [Lit.wf, IntKind.min, IntKind.max, IntKind.signed, IntKind.bits] at w1
      exact w1
    obtain ⟨k, rfl⟩ : ∃ k : Nat, u = (k : Int) := Int.eq_ofNat_of_zero_le hb0.1
    exact ⟨bk, off, k, r, rfl, World.block_lt_of_cell? _ _ h0, h0, h1, by omega, hb1⟩

/-! ### STEP 1: THE WALK -/
theorem walk (n0 n1 : ByteArray) (b0 b1 : Int) (a0 a1 : Option Addr) (l0 c0 l1 c1 : Nat) (s : Bool) (w : World) (hn1 : n1.size ≤ 140737488355328) (h0 : l0 ≤ 140737488355328) (h1 : l1 ≤ 140737488355328) (S0 : Sets a0 l0 w) (S1 : Sets a1 l1 w) :
    Calls Yba.prog 3 #[.string n0, .string n1, .int .u16 b0, .int .u16 b1, .slice a0 l0 c0, .slice a1 l1 c1, .bool s] w fun e w' => e = .returned (.bool true) ∧ Below w.heap.size w w' := by
  by_cases hbig : 1048576 < l0 + l1
  · exact law_big n0 n1 b0 b1 a0 a1 l0 c0 l1 c1 s w hbig h0 h1
  cases s with
  | true => exact law_same n0 n1 b0 b1 a0 a1 l0 c0 l1 c1 w (by omega) S0
  | false => exact law_diff n0 n1 b0 b1 a0 a1 l0 c0 l1 c1 w (by omega) (by omega) S0 S1

/-! ### THE ROW's STEP -/
set_option maxRecDepth 100000 in
theorem lifted (os : Os) (started : os.Started) (H : Type) (enc : TypeId × Value → H) :
    ReturnsInHanded {} Yba.checked os 3 .any (Rows.lawS6169AWholeSpec.pre6 enc Yba.prog Yba.f3 Rows.lawS6169AWholeRow.domain false) (Rows.lawS6169AWholeSpec.post enc Yba.prog Yba.f3 false true false false) := by
  refine returnsInHanded_of_change_sized (C := Yba.checked) own started (by kernel_rfl) Yba.func3
    (ChangeSpec.witness6 (enc := enc) (C := Yba.checked) false ⟨#[], #[.string ⟨#[]⟩, .string ⟨#[]⟩, .int .u16 0, .int .u16 0, .slice none 0 0, .slice none 0 0, .bool false], []⟩ 8 (by kernel_rfl) (by kernel_rfl) (by kernel_rfl) (by kernel_rfl)) ?_
  intro W base args ds gs before hval0 hW hcnd hsz0 _
  have hval : ∀ (j : Nat) t v, Yba.f3.params[j]? = some t → args[j]? = some v → Value.okWide Yba.prog W .any base t v := hval0
  have hsz : (DataW.weightsEach Yba.prog (Yba.f3.params.toList ++ Rows.lawS6169AWholeSpec.plain.varTypes Yba.prog) (ds ++ gs)).all (· ≤ reachBytes) = true := hsz0
  have hW' := hW
  obtain ⟨p, q, hA0, hV, rfl, hfz, hnd⟩ := hW
  have hA : DataW.TrodAll enc Yba.prog W 0 (fun _ => true) true Yba.f3.params.toList args.toList ds p := hA0
  rw [Yba.params3] at hA hval hsz
  obtain ⟨v0, vs0, d0, ds0, p0, q0, hargs, rfl, rfl, h0, r0⟩ := trodAll_cons hA
  obtain ⟨v1, vs1, d1, ds1, p1, q1, rfl, rfl, rfl, h1, r1⟩ := trodAll_cons r0
  obtain ⟨v2, vs2, d2, ds2, p2, q2, rfl, rfl, rfl, h2, r2⟩ := trodAll_cons r1
  obtain ⟨v3, vs3, d3, ds3, p3, q3, rfl, rfl, rfl, h3, r3⟩ := trodAll_cons r2
  obtain ⟨v4, vs4, d4, ds4, p4, q4, rfl, rfl, rfl, h4, r4⟩ := trodAll_cons r3
  obtain ⟨v5, vs5, d5, ds5, p5, q5, rfl, rfl, rfl, h5, r5⟩ := trodAll_cons r4
  obtain ⟨v6, vs6, d6, ds6, p6, q6, rfl, rfl, rfl, h6, r6⟩ := trodAll_cons r5
  obtain ⟨rfl, rfl, rfl⟩ := trodAll_nil r6
  obtain rfl : args = #[v0, v1, v2, v3, v4, v5, v6] := by cases args; simp_all
  obtain ⟨rfl, rfl⟩ := trodVars_none hV
  obtain ⟨s0, rfl, rfl, rfl, z0⟩ := open_string Yba.underlying9 (hval 0 9 v0 rfl rfl) h0
  obtain ⟨s1, rfl, rfl, rfl, z1⟩ := open_string Yba.underlying9 (hval 1 9 v1 rfl rfl) h1
  obtain ⟨i2, rfl, rfl, rfl, w2⟩ := open_int Yba.underlying22 (hval 2 22 v2 rfl rfl) h2
  obtain ⟨i3, rfl, rfl, rfl, w3⟩ := open_int Yba.underlying22 (hval 3 22 v3 rfl rfl) h3
  obtain ⟨a4, len4, cap4, rfl⟩ := okWide_slice Yba.underlying23 (hval 4 23 v4 rfl rfl)
  obtain ⟨a5, len5, cap5, rfl⟩ := okWide_slice Yba.underlying23 (hval 5 23 v5 rfl rfl)
  obtain ⟨b6, rfl, rfl, rfl⟩ := open_bool Yba.underlying4 (hval 6 4 v6 rfl rfl) h6
  have k4 := h4
  have k5 := h5
  have lt4 : ∀ x ∈ p4, x.block < W.heap.size := by obtain ⟨m, hm⟩ := k4; exact DataW.trod_lt m _ _ _ hm
  have lt5 : ∀ x ∈ p5, x.block < W.heap.size := by obtain ⟨m, hm⟩ := k5; exact DataW.trod_lt m _ _ _ hm
  obtain ⟨f4, g4⟩ := h4
  obtain ⟨f5, g5⟩ := h5
  obtain ⟨S4, E4⟩ := open_sets g4
  obtain ⟨S5, E5⟩ := open_sets g5
  have hreach : reachBytes ≤ 140737488355328 := by decide
  have hs1 : s1.size ≤ 140737488355328 := by
    have := sized_string (bytes := s1.data.toList) hsz (j := 1) (t := 9) rfl rfl
    have e : s1.data.toList.length = s1.size := Array.length_toList
    omega
  have hl4 : len4 ≤ 140737488355328 := by
    rcases E4 with h | ⟨es, sp, rfl, hl⟩
    · omega
    · have := sized_slice hsz (j := 4) (t := 23) rfl rfl Yba.underlying23
      rw [bytes38] at this
      omega
  have hl5 : len5 ≤ 140737488355328 := by
    rcases E5 with h | ⟨es, sp, rfl, hl⟩
    · omega
    · have := sized_slice hsz (j := 5) (t := 23) rfl rfl Yba.underlying23
      rw [bytes38] at this
      omega
  clear hA0 hval0
  refine (walk s0 s1 i2 i3 a4 a5 len4 cap4 len5 cap5 b6 W hs1 hl4 hl5 S4 S5).mono fun e W' ⟨he, bel⟩ => ?_
  subst he
  exact ⟨_, rfl, _, _, _, [], _, [], hW', trodAll_mk1 (shut_bool Yba.underlying4 _),
    (trodAll_cons_mk (shut_string Yba.underlying9 z0) (trodAll_cons_mk (shut_string Yba.underlying9 z1) (trodAll_cons_mk (shut_int Yba.underlying22 w2) (trodAll_cons_mk (shut_int Yba.underlying22 w3)
      (trodAll_cons_mk (Below.trod laidOut (by kernel_rfl) (of_decide_eq_true (by kernel_rfl)) k4 bel lt4) (trodAll_cons_mk (Below.trod laidOut (by kernel_rfl) (of_decide_eq_true (by kernel_rfl)) k5 bel lt5)
        (trodAll_cons_mk (shut_bool Yba.underlying4 _) trodAll_mk0))))))), rfl, bel.frame _, fun h => by cases h⟩

theorem over : Rows.lawS6169AWholeRow.holds Yba.pinned (OpenSpec.ofChange Rows.lawS6169AWholeSpec) :=
  OpenClaim.holds_of_wide 3 Yba.f3 rfl rfl rfl rfl rfl rfl rfl ⟨rfl, rfl, rfl, rfl, rfl⟩ rfl rfl rfl rfl rfl (by kernel_rfl) Yba.func3 (by kernel_rfl)
    (of_decide_eq_true (by kernel_rfl)) (by unfold Func.isWrapper; first | (rw [if_pos (by decide +kernel)]; kernel_rfl) | (rw [if_neg (by decide +kernel)]; exact ⟨rfl, rfl⟩))
    (fun os started H enc _ => lifted os started H enc)

/-- ████ THE STATEMENT ████ -/
theorem proved : Rows.LawS6169AWholeSaid := over
end Go.Proofs.Ybulkdwsu.lawS6169AWhole
