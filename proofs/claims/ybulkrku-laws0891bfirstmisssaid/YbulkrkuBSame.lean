import Derived.Test.YbulkrkuRows
import Derived.WalkKit
import Derived.WalkSpells
import Derived.WalkLawsBesides
import Derived.Deep.QuietTactic
import Derived.BigQuiet
namespace Go.Proofs.Ybulkrku
open Go.RowKit

theorem run_bits (b : Nat) (w : World) : (callFunc 15 #[.float .f64 b]).run Yba.prog w = .ok (.value (.int .u64 b)) w := by
  rw [run_callFunc_extern (e := Extern.MathFloatBits.float64bits) Yba.func15 (by kernel_rfl) (by kernel_rfl) (by kernel_rfl) (by kernel_rfl)]
  rfl

set_option maxHeartbeats 400000 in
theorem same_any (d : Int) (f : Nat) (u m : Bool) (w : World) :
    Calls Yba.prog 9 #[.agg #[.int .i64 d, .float .f64 f, .bool u, .bool m], .agg #[.int .i64 d, .float .f64 f, .bool u, .bool m]] w fun e w' => e = .returned (.bool true) ∧ Below w.heap.size w w' := by
  have hb := run_bits f
  go_enter Yba.func9, Yba.ntmps9
  go_wp2
  go_quiet (fail)
  go_wp2
  go_ret
  exact ⟨by simp, below_drewN (((Below.refl _ _).alloc (Nat.le_refl _) _).alloc (by simp) _) _⟩

end Go.Proofs.Ybulkrku
