import Derived.Test.YbulkbyqgRows
import Derived.Test.YbulkbyqgPlain
import Derived.WalkKit
import Derived.WalkLawsBesides
namespace Go.Proofs.Ybulkbyqg
open Go.RowKit

set_option maxHeartbeats 400000 in
theorem name_any (n : Int) (h0 : 0 ≤ n) (h1 : n ≤ 255) (w : World) : Calls Yba.prog 6 #[.int .u8 n] w fun e w' => e = .returned (.string (nm n)) ∧ w = w' := by
  rcases (show n % 4 = 0 ∨ n % 4 = 1 ∨ n % 4 = 2 ∨ n % 4 = 3 by omega) with h | h | h | h
  all_goals
    have hn : nm n = nm (n % 4) := by simp [nm]
    rw [hn, h]
    go_enter Yba.func6, Yba.ntmps6
    go_wp2
    go_ret
    exact ⟨rfl, rfl⟩
end Go.Proofs.Ybulkbyqg
