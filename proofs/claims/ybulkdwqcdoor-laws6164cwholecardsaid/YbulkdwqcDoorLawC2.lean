import Derived.Test.YbulkdwqcDoorLawC
namespace Go.Proofs.YbulkdwqcDoor.LawC
open Go.RowKit PlainA PlainC

/-- A SLICE OF BYTES THAT CAME IN: nil, or a row of 'cap' cells, the numbers 'zs'. -/
def IsRow (w : World) (a : Option Addr) (len cap : Nat) (zs : List Int) : Prop :=
  (a = none ∧ len = 0 ∧ cap = 0 ∧ zs = []) ∨
  ∃ x, a = some x ∧ len ≤ cap ∧ cap ≤ maxLen ∧ zs.length = cap ∧ (∀ i, i < zs.length → w.cell? (x.add i) = some (.int .u8 (zs.getD i 0))) ∧ ∀ n ∈ zs, (Lit.int .u8 n).wf = true

theorem pow_later {w wx : World} (hb : Below w.heap.size w wx) (hP : PowAt w) : PowAt wx := fun j hj => cell_later hb (hP j hj)

theorem rvY_shape (g : Nat → Nat) (n i T : Nat) : ∃ (x : Nat) (k e : Int) (ok : Bool), rvY g n i T = ret4f x k e ok := by
  unfold rvY
  split
  · exact ⟨_, _, _, _, rfl⟩
  split
  · exact ⟨_, _, _, _, rfl⟩
  split
  · exact ⟨_, _, _, _, rfl⟩
  · exact ⟨_, _, _, _, rfl⟩

theorem lawC_any (a : Option Addr) (n c : Nat) (zs : List Int) (u : Int) (w : World) (hr : IsRow w a n c zs) (hu0 : 0 ≤ u) (hP : PowAt w) :
    Calls Ybad.prog 4 #[.slice a n c, .int .u64 u] w fun e w' => e = .returned (.bool true) ∧ Below w.heap.size w w' := by
  have hnm : n ≤ 9223372036854775807 := by
    rcases hr with ⟨_, h, _, _⟩ | ⟨_, _, h1, h2, _⟩
    · omega
    · unfold maxLen at h2; omega
  by_cases hbig : 1048576 < n
  · refine (law_big a n c u w hbig hnm).mono fun e w' ⟨h1, h2⟩ => ⟨h1, ?_⟩
    rw [h2]; exact Below.refl _ _
  by_cases hn0 : n = 0
  · subst hn0
    exact law_empty a c u w hu0
  rcases hr with ⟨rfl, rfl, rfl, rfl⟩ | ⟨x, rfl, hlc, hcm, hzl, hcell, hwf⟩
  · exact absurd rfl hn0
  have hspot : x.spot = none := by
    have := hcell 0 (by omega)
    rw [Addr.add_zero'] at this
    exact World.cell?_spot this
  obtain ⟨b, off, spot⟩ := x
  obtain rfl : spot = none := hspot
  have hbd : ∀ k, k < c → 0 ≤ zs.getD k 0 ∧ zs.getD k 0 ≤ 255 := by
    intro k hk
    have hmem : zs.getD k 0 ∈ zs := by
      rw [List.getD_eq_getElem?_getD, List.getElem?_eq_getElem (by omega), Option.getD_some]
      exact List.getElem_mem _
    have := hwf _ hmem
    simp [Lit.wf, IntKind.min, IntKind.max, IntKind.signed, IntKind.bits] at this
    simpa using this
  have hcN : ∀ k, k < c → w.cell? ⟨b, off + k, none⟩ = some (.int .u8 ((zs.getD k 0).toNat : Nat)) := by
    intro k hk
    have h1 := hcell k (by omega)
    rw [Addr.add_lit] at h1
    rw [h1]
    have := hbd k hk
    have e : (((zs.getD k 0).toNat : Nat) : Int) = zs.getD k 0 := by omega
    rw [e]
  have hb256 : ∀ k, k < n → (zs.getD k 0).toNat < 256 := by
    intro k hk
    have := hbd k (by omega)
    omega
  generalize hg : (fun k => (zs.getD k 0).toNat) = g
  have hcG : ∀ k, k < n → w.cell? ⟨b, off + k, none⟩ = some (.int .u8 (g k : Nat)) := fun k hk => by rw [← hg]; exact hcN k (by omega)
  have hbG : ∀ k, k < n → g k < 256 := fun k hk => by rw [← hg]; exact hb256 k hk
  clear hg hcell hwf hzl hcN hb256 hbd
  obtain ⟨i, hi⟩ : ∃ i : Nat, u % ((n : Int) + 1) = (i : Int) := Int.eq_ofNat_of_zero_le (Int.emod_nonneg _ (by omega))
  have hin : i ≤ n := by
    have := Int.emod_lt_of_pos u (show 0 < (n : Int) + 1 by omega)
    omega
  have hcut : ∀ (x : Nat) (kd en : Int) (ok : Bool),
      (∀ w1, Below w.heap.size w w1 → Calls Ybad.prog 7 #[.slice (some ⟨b, off, none⟩) n c, .int .i64 (i : Nat)] w1 fun e w' => e = ret4f x kd en ok ∧ w' = w1) →
      (∀ w1, (∀ k, k < n → w1.cell? ⟨w.heap.size, k, none⟩ = some (.int .u8 (g k : Nat))) → Calls Ybad.prog 8 #[.slice (some ⟨w.heap.size, 0, none⟩) n n, .int .i64 (i : Nat)] w1 fun e w' => e = ret4f x kd en ok ∧ w' = w1) →
      Calls Ybad.prog 4 #[.slice (some ⟨b, off, none⟩) n c, .int .u64 u] w fun e w' => e = .returned (.bool true) ∧ Below w.heap.size w w' := by
    intro x kd en ok h5 h6
    refine law_walk b off n c i u x kd en ok g ((List.range n).map fun k => Value.int .u8 (g k : Nat)) w (by omega) hu0 hin hi (by simp) ?_ ?_ hcG h5 h6
    · intro v hv
      rw [List.mem_map] at hv
      obtain ⟨z, _, rfl⟩ := hv
      rfl
    · intro k hk
      rw [List.getElem?_map, List.getElem?_range hk]
      rfl
  by_cases hlt : i < n
  · obtain ⟨T, hT⟩ := ends_ex g n i hlt
    obtain ⟨x, kd, en, ok, hE⟩ := rvY_shape g n i T
    refine hcut x kd en ok (fun w1 hb1 => ?_) (fun w1 hc1 => ?_)
    · rw [← hE]
      exact readValue_any b off n c i T g w1 (by omega) hlc hlt hbG (fun k hk => cell_later hb1 (hcG k hk)) (pow_later hb1 hP) hT
    · rw [← hE]
      exact modelC_any w.heap.size 0 n n i T g w1 (by omega) hlt (fun t ht => by rw [Nat.zero_add]; exact hc1 t ht) hT
  · obtain rfl : i = n := by omega
    exact hcut 0 0 0 false (fun w1 _ => read_end b off i c w1 (by omega) hlc) (fun w1 _ => modelC_end _ i i w1 (by omega))
end Go.Proofs.YbulkdwqcDoor.LawC
