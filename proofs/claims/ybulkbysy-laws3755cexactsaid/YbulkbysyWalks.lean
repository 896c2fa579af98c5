/-
  THE WALKS of the laws on 'unexpectedKVReply' and 'foundReply'.
-/
import Derived.Test.YbulkbysyRows
import Derived.WalkKit
import Derived.WalkLawsBesides
import Derived.Outline
import Derived.Deep.QuietTactic
import Derived.BigQuiet
import Derived.WalkSmall
namespace Go.Proofs.Ybulkbysy
open Go.RowKit

/-- "error_write", "error_max_kv_bytes", "kvget", "kvput", "kvswap", "found", "not_found", as bytes. -/
def isEW (s : ByteArray) : Bool := s.toList == [101, 114, 114, 111, 114, 95, 119, 114, 105, 116, 101]
def isMX (s : ByteArray) : Bool := s.toList == [101, 114, 114, 111, 114, 95, 109, 97, 120, 95, 107, 118, 95, 98, 121, 116, 101, 115]
def isKG (s : ByteArray) : Bool := s.toList == [107, 118, 103, 101, 116]
def isKP (s : ByteArray) : Bool := s.toList == [107, 118, 112, 117, 116]
def isKS (s : ByteArray) : Bool := s.toList == [107, 118, 115, 119, 97, 112]

/-- The case table. -/
def kindOf (cmd reply : ByteArray) : Int :=
  if isEW reply then (if isKG cmd then 3 else 1) else if isMX reply then (if isKP cmd then 2 else if isKS cmd then 2 else 3) else 3

set_option maxHeartbeats 400000 in
theorem cmd_any (n : Int) (s : ByteArray) (h0 : 0 ≤ n) (h1 : n ≤ 255) (w : World) : Calls Yba.prog 5 #[.int .u8 n, .string s] w fun e w' => (∃ r, e = .returned (.string r)) ∧ w = w' := by
  go_enter Yba.func5, Yba.ntmps5
  go_wp2
  all_goals (go_ret; exact ⟨⟨_, rfl⟩, rfl⟩)

set_option maxHeartbeats 400000 in
theorem reply_any (n : Int) (s : ByteArray) (h0 : 0 ≤ n) (h1 : n ≤ 255) (w : World) : Calls Yba.prog 6 #[.int .u8 n, .string s] w fun e w' => (∃ r, e = .returned (.string r)) ∧ w = w' := by
  go_enter Yba.func6, Yba.ntmps6
  go_wp2
  all_goals (go_ret; exact ⟨⟨_, rfl⟩, rfl⟩)

/-- The error of the case table, in memory. -/
def Err (w : World) (cmd reply : ByteArray) (v : Value) : Prop :=
  (kindOf cmd reply = 1 ∧ ∃ b, v = .iface 30 (.pointer (some ⟨b, 0, none⟩)) ∧ w.cell? ⟨b, 0, none⟩ = some (.string cmd)) ∨
  (kindOf cmd reply = 2 ∧ ∃ b, v = .iface 33 (.pointer (some ⟨b, 0, none⟩)) ∧ w.cell? ⟨b, 0, none⟩ = some (.string cmd)) ∨
  (kindOf cmd reply = 3 ∧ ∃ b, v = .iface 35 (.pointer (some ⟨b, 0, none⟩)) ∧ w.cell? ⟨b, 0, none⟩ = some (.string cmd) ∧ w.cell? ⟨b, 1, none⟩ = some (.string reply))

theorem cases5 (cmd reply : ByteArray) : (isEW reply = true ∧ isKG cmd = true ∧ isMX reply = false) ∨ (isEW reply = true ∧ isKG cmd = false) ∨ (isEW reply = false ∧ isMX reply = true ∧ isKP cmd = true) ∨ (isEW reply = false ∧ isMX reply = true ∧ isKP cmd = false ∧ isKS cmd = true) ∨
    (isEW reply = false ∧ isMX reply = true ∧ isKP cmd = false ∧ isKS cmd = false) ∨ (isEW reply = false ∧ isMX reply = false) := by
  have hx : isEW reply = true → isMX reply = false := by
    intro h
    simp only [isEW, beq_iff_eq] at h
    simp [isMX, h]
  cases h1 : isEW reply <;> cases h2 : isMX reply <;> cases h3 : isKG cmd <;> cases h4 : isKP cmd <;> cases h5 : isKS cmd <;> simp_all

set_option maxHeartbeats 1000000 in
theorem unexp (cmd reply : ByteArray) (w : World) : Calls Yba.prog 7 #[.string cmd, .string reply] w fun e w' => ∃ v, e = .returned v ∧ Err w' cmd reply v ∧ Below w.heap.size w w' := by
  rcases cases5 cmd reply with ⟨h1, h2, h3⟩ | ⟨h1, h2⟩ | ⟨h1, h2, h3⟩ | ⟨h1, h2, h3, h4⟩ | ⟨h1, h2, h3, h4⟩ | ⟨h1, h2⟩
  · have hk : Hid (kindOf cmd reply = 3) := by show _ = _; simp [kindOf, h1, h2]
    simp only [isEW, isKG, isMX] at h1 h2 h3
    go_enter Yba.func7, Yba.ntmps7
    go_wp2
    go_ret
    exact ⟨_, rfl, .inr (.inr ⟨hk.out, _, rfl, by simp, by simp⟩), (Below.refl _ _).alloc (Nat.le_refl _) _⟩
  · have hk : Hid (kindOf cmd reply = 1) := by show _ = _; simp [kindOf, h1, h2]
    simp only [isEW, isKG] at h1 h2
    go_enter Yba.func7, Yba.ntmps7
    go_wp2
    go_ret
    exact ⟨_, rfl, .inl ⟨hk.out, _, rfl, by simp⟩, (Below.refl _ _).alloc (Nat.le_refl _) _⟩
  · have hk : Hid (kindOf cmd reply = 2) := by show _ = _; simp [kindOf, h1, h2, h3]
    simp only [isEW, isMX, isKP] at h1 h2 h3
    go_enter Yba.func7, Yba.ntmps7
    go_wp2
    go_ret
    exact ⟨_, rfl, .inr (.inl ⟨hk.out, _, rfl, by simp⟩), (Below.refl _ _).alloc (Nat.le_refl _) _⟩
  · have hk : Hid (kindOf cmd reply = 2) := by show _ = _; simp [kindOf, h1, h2, h3, h4]
    simp only [isEW, isMX, isKP, isKS] at h1 h2 h3 h4
    go_enter Yba.func7, Yba.ntmps7
    go_wp2
    go_ret
    exact ⟨_, rfl, .inr (.inl ⟨hk.out, _, rfl, by simp⟩), (Below.refl _ _).alloc (Nat.le_refl _) _⟩
  · have hk : Hid (kindOf cmd reply = 3) := by show _ = _; simp [kindOf, h1, h2, h3, h4]
    simp only [isEW, isMX, isKP, isKS] at h1 h2 h3 h4
    go_enter Yba.func7, Yba.ntmps7
    go_wp2
    go_ret
    exact ⟨_, rfl, .inr (.inr ⟨hk.out, _, rfl, by simp, by simp⟩), (Below.refl _ _).alloc (Nat.le_refl _) _⟩
  · have hk : Hid (kindOf cmd reply = 3) := by show _ = _; simp [kindOf, h1, h2]
    simp only [isEW, isMX] at h1 h2
    go_enter Yba.func7, Yba.ntmps7
    go_wp2
    go_ret
    exact ⟨_, rfl, .inr (.inr ⟨hk.out, _, rfl, by simp, by simp⟩), (Below.refl _ _).alloc (Nat.le_refl _) _⟩

set_option maxHeartbeats 1000000 in
theorem model_any (cmd reply : ByteArray) (w : World) : Calls Yba.prog 11 #[.string cmd, .string reply] w fun e w' => e = .returned (.int .i64 (kindOf cmd reply)) ∧ w = w' := by
  rcases cases5 cmd reply with ⟨h1, h2, h3⟩ | ⟨h1, h2⟩ | ⟨h1, h2, h3⟩ | ⟨h1, h2, h3, h4⟩ | ⟨h1, h2, h3, h4⟩ | ⟨h1, h2⟩
  · rw [show kindOf cmd reply = 3 by simp [kindOf, h1, h2]]
    simp only [isEW, isKG, isMX] at h1 h2 h3
    go_enter Yba.func11, Yba.ntmps11
    go_wp2
    go_ret
    exact ⟨rfl, rfl⟩
  · rw [show kindOf cmd reply = 1 by simp [kindOf, h1, h2]]
    simp only [isEW, isKG] at h1 h2
    go_enter Yba.func11, Yba.ntmps11
    go_wp2
    go_ret
    exact ⟨rfl, rfl⟩
  · rw [show kindOf cmd reply = 2 by simp [kindOf, h1, h2, h3]]
    simp only [isEW, isMX, isKP] at h1 h2 h3
    go_enter Yba.func11, Yba.ntmps11
    go_wp2
    go_ret
    exact ⟨rfl, rfl⟩
  · rw [show kindOf cmd reply = 2 by simp [kindOf, h1, h2, h3, h4]]
    simp only [isEW, isMX, isKP, isKS] at h1 h2 h3 h4
    go_enter Yba.func11, Yba.ntmps11
    go_wp2
    go_ret
    exact ⟨rfl, rfl⟩
  · rw [show kindOf cmd reply = 3 by simp [kindOf, h1, h2, h3, h4]]
    simp only [isEW, isMX, isKP, isKS] at h1 h2 h3 h4
    go_enter Yba.func11, Yba.ntmps11
    go_wp2
    go_ret
    exact ⟨rfl, rfl⟩
  · rw [show kindOf cmd reply = 3 by simp [kindOf, h1, h2]]
    simp only [isEW, isMX] at h1 h2
    go_enter Yba.func11, Yba.ntmps11
    go_wp2
    go_ret
    exact ⟨rfl, rfl⟩

theorem ta30_30 (a : Addr) (w : World) : (Instr.typeAssert (.iface 30 (.pointer (some a))) 24 30 true).run Yba.prog w = .ok (.tuple #[.pointer (some a), .bool true]) w := by kernel_rfl
theorem ta33_30 (a : Addr) (w : World) : (Instr.typeAssert (.iface 33 (.pointer (some a))) 24 30 true).run Yba.prog w = .ok (.tuple #[.pointer none, .bool false]) w := by kernel_rfl
theorem ta33_33 (a : Addr) (w : World) : (Instr.typeAssert (.iface 33 (.pointer (some a))) 24 33 true).run Yba.prog w = .ok (.tuple #[.pointer (some a), .bool true]) w := by kernel_rfl
theorem ta35_30 (a : Addr) (w : World) : (Instr.typeAssert (.iface 35 (.pointer (some a))) 24 30 true).run Yba.prog w = .ok (.tuple #[.pointer none, .bool false]) w := by kernel_rfl
theorem ta35_33 (a : Addr) (w : World) : (Instr.typeAssert (.iface 35 (.pointer (some a))) 24 33 true).run Yba.prog w = .ok (.tuple #[.pointer none, .bool false]) w := by kernel_rfl
theorem ta35_35 (a : Addr) (w : World) : (Instr.typeAssert (.iface 35 (.pointer (some a))) 24 35 true).run Yba.prog w = .ok (.tuple #[.pointer (some a), .bool true]) w := by kernel_rfl

set_option maxHeartbeats 400000 in
theorem kind_write (b : Nat) (cmd : ByteArray) (w : World) (hc : w.cell? ⟨b, 0, none⟩ = some (.string cmd)) :
    Calls Yba.prog 10 #[.iface 30 (.pointer (some ⟨b, 0, none⟩))] w fun e w' => e = .returned (.tuple #[.int .i64 1, .string cmd, .string ⟨#[]⟩]) ∧ ∃ n, w' = w.drewN n := by
  have t30 := ta30_30
  go_enter Yba.func10, Yba.ntmps10
  go_wp2
  go_quiet (fail)
  go_wp2
  go_ret3
  exact ⟨rfl, _, rfl⟩

set_option maxHeartbeats 400000 in
theorem kind_full (b : Nat) (cmd : ByteArray) (w : World) (hc : w.cell? ⟨b, 0, none⟩ = some (.string cmd)) :
    Calls Yba.prog 10 #[.iface 33 (.pointer (some ⟨b, 0, none⟩))] w fun e w' => e = .returned (.tuple #[.int .i64 2, .string cmd, .string ⟨#[]⟩]) ∧ ∃ n, w' = w.drewN n := by
  have t30 := ta33_30
  have t33 := ta33_33
  go_enter Yba.func10, Yba.ntmps10
  go_wp2
  go_quiet (fail)
  go_wp2
  go_ret3
  exact ⟨rfl, _, rfl⟩

set_option maxHeartbeats 400000 in
theorem kind_reply (b : Nat) (cmd reply : ByteArray) (w : World) (hc : w.cell? ⟨b, 0, none⟩ = some (.string cmd)) (hr : w.cell? ⟨b, 1, none⟩ = some (.string reply)) :
    Calls Yba.prog 10 #[.iface 35 (.pointer (some ⟨b, 0, none⟩))] w fun e w' => e = .returned (.tuple #[.int .i64 3, .string cmd, .string reply]) ∧ ∃ n, w' = w.drewN n := by
  have t30 := ta35_30
  have t33 := ta35_33
  have t35 := ta35_35
  go_enter Yba.func10, Yba.ntmps10
  go_wp2
  go_quiet (fail)
  go_wp2
  go_ret3
  exact ⟨rfl, _, rfl⟩


/-- 'zzs3755cmatches' says yes to the error of the case table. -/
theorem matches_any (cmd reply : ByteArray) (v : Value) (w : World) (he : Err w cmd reply v) :
    Calls Yba.prog 8 #[v, .string cmd, .string reply] w fun e w' => e = .returned (.bool true) ∧ Below w.heap.size w w' := by
  rcases he with ⟨hk, b, rfl, hc⟩ | ⟨hk, b, rfl, hc⟩ | ⟨hk, b, rfl, hc, hr⟩
  · go_enter Yba.func8, Yba.ntmps8
    go_wp2_with fail
    refine (kind_write b cmd _ hc).mono ?_
    rintro e w' ⟨rfl, n, rfl⟩
    go_wp2_with fail
    refine (model_any cmd reply _).mono ?_
    rintro e w' ⟨rfl, rfl⟩
    rw [hk]
    go_wp2
    go_ret
    exact ⟨rfl, below_drewN (Below.refl _ _) _⟩
  · go_enter Yba.func8, Yba.ntmps8
    go_wp2_with fail
    refine (kind_full b cmd _ hc).mono ?_
    rintro e w' ⟨rfl, n, rfl⟩
    go_wp2_with fail
    refine (model_any cmd reply _).mono ?_
    rintro e w' ⟨rfl, rfl⟩
    rw [hk]
    go_wp2
    go_ret
    exact ⟨rfl, below_drewN (Below.refl _ _) _⟩
  · go_enter Yba.func8, Yba.ntmps8
    go_wp2_with fail
    refine (kind_reply b cmd reply _ hc hr).mono ?_
    rintro e w' ⟨rfl, n, rfl⟩
    go_wp2_with fail
    refine (model_any cmd reply _).mono ?_
    rintro e w' ⟨rfl, rfl⟩
    rw [hk]
    go_wp2
    go_ret
    exact ⟨by simp, below_drewN (Below.refl _ _) _⟩
end Go.Proofs.Ybulkbysy
