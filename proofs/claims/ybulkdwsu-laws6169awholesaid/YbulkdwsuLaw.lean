import Derived.Test.YbulkdwsuRow
import Derived.Test.YbulkdwsuBuild
import Derived.Test.YbulkdwsuColl2
import Derived.BigQuiet
import Derived.Deep.Cut
namespace Go.Proofs.Ybulkdwsu
open Go.RowKit Go.Maps

/-- what is said of a list of settings. -/
def Sets (a : Option Addr) (len : Nat) (w : World) : Prop := ∀ i, i < len → ∃ (bk off : Nat) (at_ : Nat) (r : Int), a = some ⟨bk, off, none⟩ ∧ bk < w.heap.size ∧ w.cell? ⟨bk, off + i * 2, none⟩ = some (.int .u8 (at_ : Int)) ∧ w.cell? ⟨bk, off + i * 2 + 1, none⟩ = some (.int .u16 r) ∧ at_ < 256 ∧ 0 ≤ r ∧ r ≤ 65535

theorem Sets.later {a : Option Addr} {len : Nat} {w w' : World} (h : Sets a len w) (hb : Below w.heap.size w w') (hsz : w.heap.size ≤ w'.heap.size) : Sets a len w' := by
  intro i hi
  obtain ⟨bk, off, at_, r, h1, h2, h3, h4, h5⟩ := h i hi
  exact ⟨bk, off, at_, r, h1, by omega, cell_later hb h3, cell_later hb h4, h5⟩

set_option maxRecDepth 20000 in
set_option maxHeartbeats 400000 in
theorem law_big (n0 n1 : ByteArray) (b0 b1 : Int) (a0 a1 : Option Addr) (l0 c0 l1 c1 : Nat) (s : Bool) (w : World) (hbig : 1048576 < l0 + l1) (h0 : l0 ≤ 140737488355328) (h1 : l1 ≤ 140737488355328) :
    Calls Yba.prog 3 #[.string n0, .string n1, .int .u16 b0, .int .u16 b1, .slice a0 l0 c0, .slice a1 l1 c1, .bool s] w fun e w' => e = .returned (.bool true) ∧ Below w.heap.size w w' := by
  have hb : (1048576 : Int) < (l0 : Int) + (l1 : Int) := by omega
  go_enter Yba.func3, Yba.ntmps3
  go_wp2
  go_ret
  exact ⟨rfl, Below.refl _ _⟩
end Go.Proofs.Ybulkdwsu
