import Derived.Test.YbulkdwqcDoorLawA
namespace Go.Proofs.YbulkdwqcDoor
open Go.RowKit PlainA

/-- A SLICE OF BYTES THAT CAME IN: nil, or a row of 'cap' cells, the numbers 'zs'. -/
def IsRow (w : World) (a : Option Addr) (len cap : Nat) (zs : List Int) : Prop :=
  (a = none ∧ len = 0 ∧ cap = 0 ∧ zs = []) ∨
  ∃ x, a = some x ∧ len ≤ cap ∧ cap ≤ maxLen ∧ zs.length = cap ∧ (∀ i, i < zs.length → w.cell? (x.add i) = some (.int .u8 (zs.getD i 0))) ∧ ∀ n ∈ zs, (Lit.int .u8 n).wf = true

set_option maxHeartbeats 400000 in
theorem law_empty (x : Addr) (c : Nat) (i : Int) (w : World) (hi : 0 ≤ i) (hi63 : i ≤ 9223372036854775807) :
    Calls Ybad.prog 3 #[.slice (some x) 0 c, .int .i64 i] w fun e w' => e = .returned (.bool true) ∧ Below w.heap.size w w' := by
  have hne := fun (w : World) (a : Option Addr) (n c : Nat) => run_neq_slice_nil_any (P := Ybad.prog) w 22 5 a n c 0 0 Ybad.underlying22
  have hmk := fun (w : World) => make_any 0 w (by omega)
  simp only [Int.natCast_zero, List.replicate_zero] at hmk
  go_enter Ybad.func3, Ybad.ntmps3
  go_wp2_with (first
    | (refine wpList_copy_nothing rfl (.tmp 27) (.tmp 28) 22 22 rfl 5 Ybad.underlying22 Ybad.size5 (some ⟨w.heap.size, 0, none⟩) (some x) 0 0 0 c rfl rfl rfl ?_)
    | (go_at_call 5; refine (short_short _ 0 _ i _ (by omega) hi hi63 (by omega)).mono ?_; rintro e w' ⟨rfl, rfl⟩; unfold ret4)
    | (go_at_call 6; refine (model_short _ 0 _ i _ (by omega) hi hi63 (by omega)).mono ?_; rintro e w' ⟨rfl, rfl⟩; unfold ret4))
  go_loop [14] (fun t => t = .int .i64 0) (fun _ => 0)
  case atStart => rfl
  case round =>
    obtain rfl := hrel
    go_wp2
    go_ret
    exact ⟨rfl, (Below.refl _ _).alloc (Nat.le_refl _) _⟩

theorem lawA_any (a : Option Addr) (n c : Nat) (zs : List Int) (i : Int) (w : World) (hr : IsRow w a n c zs) (hi63 : i ≤ 9223372036854775807) (hT : TabAt 3 Lib.deBruijn64tab w) :
    Calls Ybad.prog 3 #[.slice a n c, .int .i64 i] w fun e w' => e = .returned (.bool true) ∧ Below w.heap.size w w' := by
  have hnm : n ≤ 9223372036854775807 := by
    rcases hr with ⟨_, h, _, _⟩ | ⟨_, _, h1, h2, _⟩
    · omega
    · unfold maxLen at h2; omega
  by_cases hbig : 1048576 < n
  · refine (law_big a n c i w hbig hnm).mono fun e w' ⟨h1, h2⟩ => ⟨h1, ?_⟩
    rw [h2]; exact Below.refl _ _
  by_cases hneg : i < 0
  · refine (law_neg a n c i w (by omega) hneg).mono fun e w' ⟨h1, h2⟩ => ⟨h1, ?_⟩
    rw [h2]; exact Below.refl _ _
  rcases hr with ⟨rfl, rfl, rfl, rfl⟩ | ⟨x, rfl, hlc, hcm, hzl, hcell, hwf⟩
  · refine (law_nil i w (by omega) hi63).mono fun e w' ⟨h1, h2⟩ => ⟨h1, ?_⟩
    rw [h2]; exact Below.refl _ _
  by_cases hn0 : n = 0
  · subst hn0
    exact law_empty x c i w (by omega) hi63
  have hspot : x.spot = none := by
    have := hcell 0 (by omega)
    rw [Addr.add_zero'] at this
    exact World.cell?_spot this
  obtain ⟨b, off, spot⟩ := x
  obtain rfl : spot = none := hspot
  have hcN : ∀ k, k < c → w.cell? ⟨b, off + k, none⟩ = some (.int .u8 ((zs.map Int.toNat).getD k 0 : Nat)) := by
    intro k hk
    have h1 := hcell k (by omega)
    rw [Addr.add_lit] at h1
    rw [h1]
    have hb : 0 ≤ zs.getD k 0 ∧ zs.getD k 0 ≤ 255 := by
      have hmem : zs.getD k 0 ∈ zs := by
        rw [List.getD_eq_getElem?_getD, List.getElem?_eq_getElem (by omega), Option.getD_some]
        exact List.getElem_mem _
      have := hwf _ hmem
      simp [Lit.wf, IntKind.min, IntKind.max, IntKind.signed, IntKind.bits] at this
      simpa using this
    have e : (((zs.map Int.toNat).getD k 0 : Nat) : Int) = zs.getD k 0 := by
      rw [List.getD_eq_getElem?_getD, List.getD_eq_getElem?_getD, List.getElem?_map, List.getElem?_eq_getElem (by omega)] at *
      simp at hb ⊢
      omega
    rw [e]
  have hbN : Bytes (zs.map Int.toNat) := by
    intro z hz
    rw [List.mem_map] at hz
    obtain ⟨y, hy, rfl⟩ := hz
    have := hwf y hy
    simp [Lit.wf, IntKind.min, IntKind.max, IntKind.signed, IntKind.bits] at this
    omega
  have hlN : (zs.map Int.toNat).length = c := by simpa using hzl
  generalize zs.map Int.toNat = zn at hcN hbN hlN
  clear hcell hwf hzl
  have hcut : ∀ (x f en : Int) (ok : Bool),
      (∀ w1, Below w.heap.size w w1 → Calls Ybad.prog 5 #[.slice (some ⟨b, off, none⟩) n c, .int .i64 i] w1 fun e w' => e = ret4 x f en ok ∧ Below w1.heap.size w1 w') →
      (∀ w1, (∀ k, k < n → w1.cell? ⟨w.heap.size, k, none⟩ = some (.int .u8 (zn.getD k 0 : Nat))) → Calls Ybad.prog 6 #[.slice (some ⟨w.heap.size, 0, none⟩) n n, .int .i64 i] w1 fun e w' => e = ret4 x f en ok ∧ w' = w1) →
      Calls Ybad.prog 3 #[.slice (some ⟨b, off, none⟩) n c, .int .i64 i] w fun e w' => e = .returned (.bool true) ∧ Below w.heap.size w w' := by
    intro x f en ok h5 h6
    refine law_walk b off n c i x f en ok (fun k => zn.getD k 0) ((zn.take n).map fun z => Value.int .u8 (z : Nat)) w (by omega) (by omega) hi63 (by simp; omega) ?_ ?_ (fun k hk => hcN k (by omega)) h5 h6
    · intro v hv
      rw [List.mem_map] at hv
      obtain ⟨z, _, rfl⟩ := hv
      rfl
    · intro k hk
      rw [List.getElem?_map, List.getElem?_take, if_pos hk, List.getD_eq_getElem?_getD, List.getElem?_eq_getElem (by omega)]
      rfl
  by_cases hs : (n : Int) - i < 8
  · refine hcut 0 0 0 false (fun w1 _ => ?_) (fun w1 _ => model_short _ n n i w1 (by omega) (by omega) hi63 hs)
    refine (short_short _ n c i w1 (by omega) (by omega) hi63 hs).mono fun e w' ⟨h1, h2⟩ => ⟨h1, ?_⟩
    rw [h2]; exact Below.refl _ _
  · obtain ⟨iN, rfl⟩ := Int.eq_ofNat_of_zero_le (show 0 ≤ i by omega)
    obtain ⟨x, f, en, ok, hE⟩ := swEnd_shape ((zn.drop iN).take 8) iN
    refine hcut x f en ok (fun w1 hb1 => ?_) (fun w1 hc1 => ?_)
    · rw [← hE]
      exact shortWord_any b off n c iN zn w1 (by omega) (by omega) hlc hcm hlN (fun k hk => cell_later hb1 (hcN k (by omega))) hbN (tab_later hb1 hT)
    · rw [← hE]
      refine model_any w.heap.size 0 n n iN ((zn.drop iN).take 8) w1 (by omega) (by omega) (Nat.le_refl _) (by unfold maxLen; omega) (by rw [List.length_take, List.length_drop]; omega) (fun j hj => ?_)
      have := hc1 (iN + j) (by omega)
      rw [show 0 + iN + j = iN + j by omega, this]
      simp [List.getD_eq_getElem?_getD, hj]
end Go.Proofs.YbulkdwqcDoor
