/-
  THE WALKS of 'LawS3754CModel' and its two callees.
-/
import Derived.Test.YbulkbyskRows
import Derived.WalkKit
import Derived.WalkLawsBesides
namespace Go.Proofs.Ybulkbysk
open Go.RowKit

theorem field_in (b o n cap i : Nat) (s : ByteArray) (w : World) (hi : i < n) (hc : w.cell? ⟨b, o + i, none⟩ = some (.string s)) :
    Calls Yba.prog 4 #[.slice (some ⟨b, o, none⟩) n cap, .int .i64 (i : Int)] w fun e w' => e = .returned (.string s) ∧ w = w' := by
  have l0 : (0 : Int) ≤ (i : Int) := by omega
  have l1 : (i : Int) < (n : Int) := by omega
  go_enter Yba.func4, Yba.ntmps4
  go_wp2
  go_ret
  exact ⟨rfl, rfl⟩

theorem field_out (a : Option Addr) (n cap i : Nat) (w : World) (hi : n ≤ i) :
    Calls Yba.prog 4 #[.slice a n cap, .int .i64 (i : Int)] w fun e w' => e = .returned (.string ⟨#[]⟩) ∧ w = w' := by
  have l1 : ¬ (i : Int) < (n : Int) := by omega
  go_enter Yba.func4, Yba.ntmps4
  go_wp2
  go_ret
  exact ⟨rfl, rfl⟩

set_option maxHeartbeats 400000 in
theorem model_in (b o n cap i : Nat) (s : ByteArray) (w : World) (hi : i < n) (hn : n ≤ 4096) (hc : w.cell? ⟨b, o + i, none⟩ = some (.string s)) :
    Calls Yba.prog 5 #[.slice (some ⟨b, o, none⟩) n cap, .int .i64 (i : Int)] w fun e w' => e = .returned (.string s) ∧ w = w' := by
  go_enter Yba.func5, Yba.ntmps5
  go_wp2
  go_loop [5] (fun t => ∃ k : Nat, k ≤ i ∧ t = .int .i64 k) (fun t => i - (intOf t).toNat)
  case atStart => exact ⟨0, Nat.zero_le _, rfl⟩
  case round =>
    obtain ⟨k, hk, rfl⟩ := hrel
    have l0 : (0 : Int) ≤ (k : Int) := by omega
    have l1 : (k : Int) < (n : Int) := by omega
    by_cases hki : k < i
    · have ht : ((k : Int) == (i : Int)) = false := beq_eq_false_iff_ne.2 (by omega)
      go_wp2
      go_round
      case rel => exact ⟨k + 1, by omega, by go_num⟩
      case measure => simp [intOf]; omega
    · have e : i = k := by omega
      subst e
      go_wp2
      go_ret
      exact ⟨rfl, rfl⟩

set_option maxHeartbeats 400000 in
theorem model_out (a : Option Addr) (n cap i : Nat) (w : World) (hi : n ≤ i) (hn : n ≤ 4096) :
    Calls Yba.prog 5 #[.slice a n cap, .int .i64 (i : Int)] w fun e w' => e = .returned (.string ⟨#[]⟩) ∧ w = w' := by
  go_enter Yba.func5, Yba.ntmps5
  go_wp2
  go_loop [5] (fun t => ∃ k : Nat, k ≤ n ∧ t = .int .i64 k) (fun t => n - (intOf t).toNat)
  case atStart => exact ⟨0, Nat.zero_le _, rfl⟩
  case round =>
    obtain ⟨k, hk, rfl⟩ := hrel
    by_cases hlt : k < n
    · have ht : ((k : Int) == (i : Int)) = false := beq_eq_false_iff_ne.2 (by omega)
      have l1 : (k : Int) < (n : Int) := by omega
      go_wp2
      go_round
      case rel => exact ⟨k + 1, by omega, by go_num⟩
      case measure => simp [intOf]; omega
    · go_wp2
      go_ret
      exact ⟨rfl, rfl⟩

/-- More than 4096 fields. -/
theorem law_long (a : Option Addr) (n cap : Nat) (j : Int) (w : World) (hn : 4096 < n) :
    Calls Yba.prog 3 #[.slice a n cap, .int .u16 j] w fun e w' => e = .returned (.bool true) ∧ Below w.heap.size w w' := by
  have hd : decide ((4096 : Int) < (n : Int)) = true := by simp; omega
  go_enter Yba.func3, Yba.ntmps3
  go_wp2
  go_ret
  exact ⟨rfl, Below.refl _ _⟩

/-- The index past the end. -/
theorem law_out (a : Option Addr) (n cap : Nat) (j : Int) (w : World) (hn : n ≤ 4096) (h0 : 0 ≤ j) (h1 : j ≤ 65535) (hj : n ≤ (j % 80).toNat) :
    Calls Yba.prog 3 #[.slice a n cap, .int .u16 j] w fun e w' => e = .returned (.bool true) ∧ Below w.heap.size w w' := by
  have hd : decide ((4096 : Int) < (n : Int)) = false := by simp; omega
  obtain ⟨i, hi⟩ : ∃ i : Nat, j % 80 = (i : Int) := ⟨(j % 80).toNat, by omega⟩
  have hni : n ≤ i := by omega
  clear hj
  go_enter Yba.func3, Yba.ntmps3
  go_wp2_with fail
  refine (field_out a n cap i _ hni).mono ?_
  rintro e w' ⟨rfl, rfl⟩
  go_wp2_with fail
  refine (model_out a n cap i _ hni hn).mono ?_
  rintro e w' ⟨rfl, rfl⟩
  go_wp2
  go_ret
  exact ⟨by simp, Below.refl _ _⟩

theorem law_in (b o n cap : Nat) (ss : Nat → ByteArray) (j : Int) (w : World) (hn : n ≤ 4096) (h0 : 0 ≤ j) (h1 : j ≤ 65535) (hj : (j % 80).toNat < n) (hc : ∀ k, k < n → w.cell? ⟨b, o + k, none⟩ = some (.string (ss k))) :
    Calls Yba.prog 3 #[.slice (some ⟨b, o, none⟩) n cap, .int .u16 j] w fun e w' => e = .returned (.bool true) ∧ Below w.heap.size w w' := by
  have hd : decide ((4096 : Int) < (n : Int)) = false := by simp; omega
  obtain ⟨i, hi⟩ : ∃ i : Nat, j % 80 = (i : Int) := ⟨(j % 80).toNat, by omega⟩
  have hni : i < n := by omega
  have hci := hc i hni
  clear hj hc
  go_enter Yba.func3, Yba.ntmps3
  go_wp2_with fail
  refine (field_in b o n cap i _ _ hni hci).mono ?_
  rintro e w' ⟨rfl, rfl⟩
  go_wp2_with fail
  refine (model_in b o n cap i _ _ hni hn hci).mono ?_
  rintro e w' ⟨rfl, rfl⟩
  go_wp2
  go_ret
  exact ⟨by simp, Below.refl _ _⟩
end Go.Proofs.Ybulkbysk
