import Derived.Test.YbulkbyskDoorPush
import Derived.RegionTactic
namespace Go.Proofs.YbulkbyskDoor
open Go.RowKit

set_option maxHeartbeats 400000 in
/-- 'queue.Less' of the second against the first: no, where the second falls due no sooner (and, at the same time, was started no sooner). -/
theorem qless_no (g cap u t : Nat) (nu nt : ByteArray) (tv ov tv' ov' d0 d1 o0 o1 i0 i1 : Int) (w : World) (hown : w.cell? ⟨g, 0, none⟩ = some (.pointer (some ⟨u, 0, none⟩))) (hown1 : w.cell? ⟨g, 1, none⟩ = some (.pointer (some ⟨t, 0, none⟩)))
    (hu : Tm w u nu tv ov d0 o0 i0) (ht : Tm w t nt tv' ov' d1 o1 i1) (hd : d0 ≤ d1) (ho : d0 = d1 → o0 ≤ o1) :
    Calls Ybad.prog 42 #[.slice (some ⟨g, 0, none⟩) 2 cap, .int .i64 1, .int .i64 0] w fun e w' => e = .returned (.bool false) ∧ Same w w' := by
  have cu3 : w.cell? ⟨u, 3, none⟩ = some (.int .i64 d0) := by simp [World.cell?, show w.heap[u]? = _ from hu]
  have ct3 : w.cell? ⟨t, 3, none⟩ = some (.int .i64 d1) := by simp [World.cell?, show w.heap[t]? = _ from ht]
  have cu6 : w.cell? ⟨u, 6, none⟩ = some (.int .u64 o0) := by simp [World.cell?, show w.heap[u]? = _ from hu]
  have ct6 : w.cell? ⟨t, 6, none⟩ = some (.int .u64 o1) := by simp [World.cell?, show w.heap[t]? = _ from ht]
  clear hu ht
  by_cases e : d0 = d1
  · have ho' := ho e
    subst e
    clear ho hd
    have hlt : decide (o1 < o0) = false := by simp; omega
    go_enter Ybad.func42, Ybad.ntmps42
    go_wp2
    go_quiet (fail)
    go_wp2
    go_quiet (fail)
    go_wp2
    go_ret
    exact ⟨by simp, ((Same.refl w).drewN _).drewN _⟩
  · have hne : (d1 != d0) = true := by simp; omega
    have hlt : decide (d1 < d0) = false := by simp; omega
    clear ho
    go_enter Ybad.func42, Ybad.ntmps42
    go_wp2
    go_quiet (fail)
    go_wp2
    go_quiet (fail)
    go_wp2
    go_ret
    exact ⟨by simp, ((Same.refl w).drewN _).drewN _⟩

set_option maxHeartbeats 400000 in
/-- 'heap.up' from the second place, where it is not less than the first. -/
theorem up_one (S g cap u t : Nat) (nu nt : ByteArray) (tv ov tv' ov' d0 d1 o0 o1 i0 i1 : Int) (w : World) (hq : w.cell? ⟨S, 6, none⟩ = some (.slice (some ⟨g, 0, none⟩) 2 cap)) (hown : w.cell? ⟨g, 0, none⟩ = some (.pointer (some ⟨u, 0, none⟩))) (hown1 : w.cell? ⟨g, 1, none⟩ = some (.pointer (some ⟨t, 0, none⟩)))
    (hu : Tm w u nu tv ov d0 o0 i0) (ht : Tm w t nt tv' ov' d1 o1 i1) (hd : d0 ≤ d1) (ho : d0 = d1 → o0 ≤ o1) :
    Calls Ybad.prog 22 #[.iface 74 (.pointer (some ⟨S, 6, none⟩)), .int .i64 1] w fun e w' => e = .returned (.tuple #[]) ∧ Same w w' := by
  have hm := m_less ⟨S, 6, none⟩ (some ⟨g, 0, none⟩) 2 cap w hq
  have HU := hide hu
  have HT := hide ht
  have HO := hide ho
  clear hu ht ho
  go_enter Ybad.func22, Ybad.ntmps22
  go_wp2
  refine wp_loop_rounds 1 ?_
  rw [rounds_succ]
  go_wp2_with fail
  refine (qless_no g cap u t nu nt tv ov tv' ov' d0 d1 o0 o1 i0 i1 _ hown hown1 HU.out HT.out hd HO.out).mono ?_
  rintro e w1 ⟨rfl, hs⟩
  go_wp2
  go_end0
  exact ⟨rfl, hs⟩

set_option maxHeartbeats 400000 in
theorem up_zero (S : Nat) (w : World) :
    Calls Ybad.prog 22 #[.iface 74 (.pointer (some ⟨S, 6, none⟩)), .int .i64 0] w fun e w' => e = .returned (.tuple #[]) ∧ w = w' := by
  go_enter Ybad.func22, Ybad.ntmps22
  go_wp2
  refine wp_loop_rounds 1 ?_
  rw [rounds_succ]
  go_wp2
  go_end0
  exact ⟨rfl, rfl⟩

set_option maxHeartbeats 400000 in
/-- 'heap.down' over one element. -/
theorem down_one (S : Nat) (w : World) :
    Calls Ybad.prog 21 #[.iface 74 (.pointer (some ⟨S, 6, none⟩)), .int .i64 0, .int .i64 1] w fun e w' => e = .returned (.bool false) ∧ w = w' := by
  go_enter Ybad.func21, Ybad.ntmps21
  go_wp2
  refine wp_loop_rounds 1 ?_
  rw [rounds_succ]
  go_wp2
  go_ret
  exact ⟨rfl, rfl⟩

/-- '(queue).Len'. -/
theorem qlen (a : Option Addr) (n c : Nat) (w : World) : Calls Ybad.prog 41 #[.slice a n c] w fun e w' => e = .returned (.int .i64 n) ∧ w = w' := by
  go_enter Ybad.func41, Ybad.ntmps41
  go_wp2
  go_ret
  exact ⟨rfl, rfl⟩

/-- 'heap.Push' onto an empty queue. -/
theorem hpush0 (S t Bq : Nat) (clk du mv : Value) (a : Option Addr) (cap : Nat) (st : Int) (nm : ByteArray) (tv o due ord ix : Int) (w : World)
    (hS : Stn w S clk du mv (.slice a 0 cap) st) (ht : Tm w t nm tv o due ord ix) (hown : w.ownsRow Bq 70 1 (.slice a 0 cap) 0 []) (hBq : Bq ≤ w.heap.size) (hne : t ≠ S) :
    Calls Ybad.prog 23 #[.iface 74 (.pointer (some ⟨S, 6, none⟩)), .iface 70 (.pointer (some ⟨t, 0, none⟩))] w fun e w' => e = .returned (.tuple #[]) ∧ Pushed w S t Bq 0 clk du mv (.slice a 0 cap) st nm tv o due ord [] w' := by
  have hm := m_push
  go_enter Ybad.func23, Ybad.ntmps23
  go_wp2_with fail
  refine (qpush S t Bq 0 clk du mv a cap st nm tv o due ord ix [] _ hS ht hown (by omega) hBq hne).mono ?_
  rintro e w1 ⟨rfl, hp⟩
  obtain ⟨g, cap', h1, h2⟩ := hp
  have c6 : w1.cell? ⟨S, 6, none⟩ = some (.slice (some ⟨g, 0, none⟩) 1 cap') := by simp [World.cell?, show w1.heap[S]? = _ from h1]
  have hl := m_len ⟨S, 6, none⟩ (some ⟨g, 0, none⟩) 1 cap' w1 c6
  have HP : Hid (Pushed w S t Bq 0 clk du mv (.slice a 0 cap) st nm tv o due ord [] w1) := ⟨g, cap', h1, h2⟩
  clear h1 h2 hS ht hown
  go_wp2_with fail
  refine (qlen (some ⟨g, 0, none⟩) 1 cap' _).mono ?_
  rintro e w2 ⟨rfl, rfl⟩
  go_wp2_with fail
  refine (up_zero S _).mono ?_
  rintro e w2 ⟨rfl, rfl⟩
  go_wp2
  go_end0
  exact ⟨rfl, HP.out⟩
end Go.Proofs.YbulkbyskDoor
