import Derived.Test.YbulkdwsgLocks
import Derived.Conc.MuLone
import Derived.WalkKit
import Derived.WalkSpells
import Derived.WalkLawsBesides
namespace Go.Proofs.Ybulkdwsg
open Go.RowKit Go.MuLone

set_option maxRecDepth 20000 in
set_option maxHeartbeats 400000 in
theorem tryLock_free (b off : Nat) (w : World) (hc : w.cell? ⟨b, off, none⟩ = some (.int .i32 0)) (hz : w.frozen? ⟨b, off, none⟩ = false) :
    Calls Yba.prog 6 #[.pointer (some ⟨b, off, none⟩)] w fun e w' => e = .returned (.bool true) ∧ w' = w.setCell ⟨b, off, none⟩ (.int .i32 1) := by
  have hd : ∀ w, (callFunc 11 #[]).run Yba.prog w = .ok (.value (.tuple #[])) w := disable Yba.muLib
  have he : ∀ w, (callFunc 13 #[]).run Yba.prog w = .ok (.value (.tuple #[])) w := enable Yba.muLib
  have ha : ∀ a w, (callFunc 14 #[.pointer (some a)]).run Yba.prog w = .ok (.value (.tuple #[])) w := acquire Yba.muLib
  have hcas := run_call_cas_hit (P := Yba.prog) Yba.func12 (by kernel_rfl) (by kernel_rfl) (by kernel_rfl) .i32 (by kernel_rfl) (y := 1) hc hz
  have hc' := World.cell?_setCell_same w ⟨b, off, none⟩ (.int .i32 1) hc
  have hcv := run_convert_to_unsafe (P := Yba.prog) (src := 72) (dst := 52) Yba.underlying72 Yba.underlying52 Yba.muLib.room_tIMutex hc'
  clear hc'
  have h5 : bits BinOp.and IntKind.i32 0 5 = 0 := by decide
  go_enter Yba.func6, Yba.ntmps6
  go_wp2
  go_ret
  exact ⟨rfl, rfl⟩
end Go.Proofs.Ybulkdwsg
