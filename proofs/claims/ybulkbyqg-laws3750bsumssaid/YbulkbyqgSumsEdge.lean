import Derived.Test.YbulkbyqgSums
namespace Go.Proofs.Ybulkbyqg
open Go.RowKit

set_option maxHeartbeats 1000000 in
set_option maxRecDepth 100000 in
theorem sums_zero (i s : Int) (a2 a3 : Option Addr) (len2 cap2 len3 cap3 : Nat) (w : World)
    (hn : len2 = 0 ∨ (len3 = 0 ∧ 0 < len2)) (h2 : len2 ≤ 1024) (h3 : len3 ≤ 1024) :
    Calls Yba.prog 3 #[.int .i64 i, .int .i64 s, .slice a2 len2 cap2, .slice a3 len3 cap3] w fun e w' => e = .returned (.bool true) ∧ Below w.heap.size w w' := by
  have hd2 : decide ((1024 : Int) < (len2 : Int)) = false := by simp; omega
  have hd3 : decide ((1024 : Int) < (len3 : Int)) = false := by simp; omega
  rcases hn with rfl | ⟨rfl, hn⟩
  all_goals
    go_enter Yba.func3, Yba.ntmps3
    go_wp2
    go_loop [11] (fun t => t = .int .i64 0) (fun _ => 0)
    case atStart => rfl
    case round =>
      obtain rfl := hrel
      go_wp2
      go_loop [12, 13] (fun v t => v = .slice none 0 0 ∧ t = .int .i64 0) (fun _ _ => 0)
      case atStart => exact ⟨rfl, rfl⟩
      case round =>
        obtain ⟨rfl, rfl⟩ := hrel
        go_wp2
        go_loop [100] (fun t => t = .int .i64 0) (fun _ => 0)
        case atStart => rfl
        case round =>
          obtain rfl := hrel
          go_wp2
          go_ret
          exact ⟨rfl, (Below.refl _ _).alloc (Nat.le_refl _) _⟩

set_option maxHeartbeats 1000000 in
theorem sums_long (i s : Int) (a2 a3 : Option Addr) (len2 cap2 len3 cap3 : Nat) (w : World)
    (hn : 1024 < len2 ∨ (len2 ≤ 1024 ∧ 1024 < len3)) :
    Calls Yba.prog 3 #[.int .i64 i, .int .i64 s, .slice a2 len2 cap2, .slice a3 len3 cap3] w fun e w' => e = .returned (.bool true) ∧ Below w.heap.size w w' := by
  rcases hn with h | ⟨h2, h3⟩
  · have hd2 : decide ((1024 : Int) < (len2 : Int)) = true := by simp; omega
    go_enter Yba.func3, Yba.ntmps3
    go_wp2
    go_ret
    exact ⟨rfl, Below.refl _ _⟩
  · have hd2 : decide ((1024 : Int) < (len2 : Int)) = false := by simp; omega
    have hd3 : decide ((1024 : Int) < (len3 : Int)) = true := by simp; omega
    go_enter Yba.func3, Yba.ntmps3
    go_wp2
    go_ret
    exact ⟨rfl, Below.refl _ _⟩
end Go.Proofs.Ybulkbyqg
