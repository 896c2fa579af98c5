import Derived.Test.YbulkbyskDoorGen
namespace Go.Proofs.YbulkbyskDoor
open Go.RowKit Go.Maps
attribute [local go_sem ↓] Go.wp_at_zero Go.wp_at_succ

theorem Chg.cell {T : Nat → Prop} {w w' : World} (h : Chg T w w') {j i : Nat} {v : Value} (hc : w.cell? ⟨j, i, none⟩ = some v) (hn : ¬ T j) : w'.cell? ⟨j, i, none⟩ = some v :=
  (World.cell?_of_block (w := w) (a := ⟨j, i, none⟩) (h.block j (World.block_lt_of_cell? w _ hc) hn)).trans hc

/-- The variable of the result. -/
theorem exp_var {w w1 : World} (hc : Chg (fun _ => False) (w.alloc (.cells #[.string ⟨#[]⟩, .int .u8 0, .int .u8 0, .int .i64 0] 54)) w1) :
    w.heap.size < w1.heap.size ∧ w1.heap[w.heap.size]? = some (.cells #[.string ⟨#[]⟩, .int .u8 0, .int .u8 0, .int .i64 0] 54 (0, 0)) := by
  have h := (hc.block w.heap.size (by simp) (fun x => x)).trans (heap_alloc_new w _)
  exact ⟨lt_of_block h, h⟩

/-- The result, as the return reads it. -/
theorem exp_end {w1 : World} {r : Nat} {x0 x1 x2 x3 : Value} (hr : w1.heap[r]? = some (.cells #[x0, x1, x2, x3] 54 (0, 0))) (v0 v1 v2 v3 : Value) (o : Obj) :
    let W := ((((w1.setCell ⟨r, 0, none⟩ v0).setCell ⟨r, 1, none⟩ v1).setCell ⟨r, 2, none⟩ v2).setCell ⟨r, 3, none⟩ v3).alloc o
    W.cell? ⟨r, 0, none⟩ = some v0 ∧ W.cell? ⟨r, 1, none⟩ = some v1 ∧ W.cell? ⟨r, 2, none⟩ = some v2 ∧ W.cell? ⟨r, 3, none⟩ = some v3 := by
  intro W
  have hl := lt_of_block hr
  have h4 := heap_setCell_same (j := 3) (u := v3) (heap_setCell_same (j := 2) (u := v2) (heap_setCell_same (j := 1) (u := v1) (heap_setCell_same (j := 0) (u := v0) hr)))
  have h5 : W.heap[r]? = some (.cells #[v0, v1, v2, v3] 54 (0, 0)) := (Below.heap_alloc _ _ _ (lt_of_block h4)).trans h4
  exact ⟨by simp [World.cell?, h5], by simp [World.cell?, h5], by simp [World.cell?, h5], by simp [World.cell?, h5]⟩

set_option maxHeartbeats 1000000 in
/-- 'NextExpiry' where no timer runs. -/
theorem exp_no (S cap : Nat) (qa : Option Addr) (w : World) (c6 : w.cell? ⟨S, 6, none⟩ = some (.slice qa 0 cap)) :
    Calls Ybad.prog 10 #[.pointer (some ⟨S, 0, none⟩)] w fun e w' => e = .returned (.tuple #[.agg #[.string ⟨#[]⟩, .int .u8 0, .int .u8 0, .int .i64 0], .bool false]) ∧ Chg (fun _ => False) w w' := by
  have hS := World.block_lt_of_cell? w _ c6
  have C6 : Hid ((w.alloc (.cells #[.string ⟨#[]⟩, .int .u8 0, .int .u8 0, .int .i64 0] 54)).cell? ⟨S, 6, none⟩ = some (.slice qa 0 cap)) := (World.cell?_alloc_past (w := w) _ S 6 hS).trans c6
  clear c6
  go_enter Ybad.func10, Ybad.ntmps10
  go_wp2_with fail
  refine (next_no S cap qa _ C6.out).mono ?_
  rintro e w1 ⟨rfl, hc⟩
  obtain ⟨hl, hr⟩ := exp_var hc
  have HC := hide hc
  have r0 : w1.cell? ⟨w.heap.size, 0, none⟩ = some (.string ⟨#[]⟩) := by simp [World.cell?, hr]
  have r1 : w1.cell? ⟨w.heap.size, 1, none⟩ = some (.int .u8 0) := by simp [World.cell?, hr]
  have r2 : w1.cell? ⟨w.heap.size, 2, none⟩ = some (.int .u8 0) := by simp [World.cell?, hr]
  have r3 : w1.cell? ⟨w.heap.size, 3, none⟩ = some (.int .i64 0) := by simp [World.cell?, hr]
  have s0 : w1.frozen? ⟨w.heap.size, 0, none⟩ = false := by simp [World.frozen?, hr]
  have s1 : w1.frozen? ⟨w.heap.size, 1, none⟩ = false := by simp [World.frozen?, hr]
  have s2 : w1.frozen? ⟨w.heap.size, 2, none⟩ = false := by simp [World.frozen?, hr]
  have s3 : w1.frozen? ⟨w.heap.size, 3, none⟩ = false := by simp [World.frozen?, hr]
  obtain ⟨q0, q1, q2, q3⟩ := exp_end hr (.string ⟨#[]⟩) (.int .u8 0) (.int .u8 0) (.int .i64 0) (.cells #[.string ⟨#[]⟩, .int .u8 0, .int .u8 0, .int .i64 0, .int .u8 0, .bool false] 66)
  have Q0 := hide q0
  have Q1 := hide q1
  have Q2 := hide q2
  have Q3 := hide q3
  clear hc hr q0 q1 q2 q3
  go_wp2
  try simp only [Exit.inBlock, Exit.then]
  refine bodyPost_ret (v := .tuple #[.agg #[.string ⟨#[]⟩, .int .u8 0, .int .u8 0, .int .i64 0], .bool false]) (by have q0 := Q0.out; have q1 := Q1.out; have q2 := Q2.out; have q3 := Q3.out; simp [results, Ybad.results10, go_sem, q0, q1, q2, q3]) rfl ?_
  exact ⟨rfl, (((((((Chg.refl _ w).alloc _).step HC.out (fun _ _ x => x)).setCell (p := ⟨w.heap.size, 0, none⟩) (fun h => absurd h (Nat.lt_irrefl _)) _).setCell (p := ⟨w.heap.size, 1, none⟩) (fun h => absurd h (Nat.lt_irrefl _)) _).setCell (p := ⟨w.heap.size, 2, none⟩) (fun h => absurd h (Nat.lt_irrefl _)) _).setCell (p := ⟨w.heap.size, 3, none⟩) (fun h => absurd h (Nat.lt_irrefl _)) _).alloc _⟩

set_option maxHeartbeats 1000000 in
/-- 'NextExpiry' where timers run. -/
theorem exp_yes (S g cap n t : Nat) (nm : ByteArray) (a b due ord ix : Int) (w : World) (c6 : w.cell? ⟨S, 6, none⟩ = some (.slice (some ⟨g, 0, none⟩) n cap)) (hn : 0 < n) (hn2 : n ≤ 2) (hg : w.cell? ⟨g, 0, none⟩ = some (pt t)) (ht : Tm w t nm a b due ord ix) :
    Calls Ybad.prog 10 #[.pointer (some ⟨S, 0, none⟩)] w fun e w' => e = .returned (.tuple #[.agg #[.string nm, .int .u8 a, .int .u8 b, .int .i64 due], .bool true]) ∧ Chg (fun _ => False) w w' := by
  have hS := World.block_lt_of_cell? w _ c6
  have hgl := World.block_lt_of_cell? w _ hg
  have htl := ht.lt
  have C6 : Hid ((w.alloc (.cells #[.string ⟨#[]⟩, .int .u8 0, .int .u8 0, .int .i64 0] 54)).cell? ⟨S, 6, none⟩ = some (.slice (some ⟨g, 0, none⟩) n cap)) := (World.cell?_alloc_past (w := w) _ S 6 hS).trans c6
  have HG : Hid ((w.alloc (.cells #[.string ⟨#[]⟩, .int .u8 0, .int .u8 0, .int .i64 0] 54)).cell? ⟨g, 0, none⟩ = some (pt t)) := (World.cell?_alloc_past (w := w) _ g 0 hgl).trans hg
  have HT : Hid (Tm (w.alloc (.cells #[.string ⟨#[]⟩, .int .u8 0, .int .u8 0, .int .i64 0] 54)) t nm a b due ord ix) := ht.block (Below.heap_alloc _ _ _ htl)
  clear c6 hg ht
  go_enter Ybad.func10, Ybad.ntmps10
  go_wp2_with fail
  refine (next_yes S g cap n t nm a b due ord ix _ C6.out hn hn2 HG.out HT.out).mono ?_
  rintro e w1 ⟨rfl, hc⟩
  obtain ⟨hl, hr⟩ := exp_var hc
  have HC := hide hc
  have r0 : w1.cell? ⟨w.heap.size, 0, none⟩ = some (.string ⟨#[]⟩) := by simp [World.cell?, hr]
  have r1 : w1.cell? ⟨w.heap.size, 1, none⟩ = some (.int .u8 0) := by simp [World.cell?, hr]
  have r2 : w1.cell? ⟨w.heap.size, 2, none⟩ = some (.int .u8 0) := by simp [World.cell?, hr]
  have r3 : w1.cell? ⟨w.heap.size, 3, none⟩ = some (.int .i64 0) := by simp [World.cell?, hr]
  have s0 : w1.frozen? ⟨w.heap.size, 0, none⟩ = false := by simp [World.frozen?, hr]
  have s1 : w1.frozen? ⟨w.heap.size, 1, none⟩ = false := by simp [World.frozen?, hr]
  have s2 : w1.frozen? ⟨w.heap.size, 2, none⟩ = false := by simp [World.frozen?, hr]
  have s3 : w1.frozen? ⟨w.heap.size, 3, none⟩ = false := by simp [World.frozen?, hr]
  obtain ⟨q0, q1, q2, q3⟩ := exp_end hr (.string nm) (.int .u8 a) (.int .u8 b) (.int .i64 due) (.cells #[.string nm, .int .u8 a, .int .u8 b, .int .i64 due, .int .u8 0, .bool false] 66)
  have Q0 := hide q0
  have Q1 := hide q1
  have Q2 := hide q2
  have Q3 := hide q3
  clear hc hr q0 q1 q2 q3
  go_wp2
  try simp only [Exit.inBlock, Exit.then]
  refine bodyPost_ret (v := .tuple #[.agg #[.string nm, .int .u8 a, .int .u8 b, .int .i64 due], .bool true]) (by have q0 := Q0.out; have q1 := Q1.out; have q2 := Q2.out; have q3 := Q3.out; simp [results, Ybad.results10, go_sem, q0, q1, q2, q3]) rfl ?_
  exact ⟨rfl, (((((((Chg.refl _ w).alloc _).step HC.out (fun _ _ x => x)).setCell (p := ⟨w.heap.size, 0, none⟩) (fun h => absurd h (Nat.lt_irrefl _)) _).setCell (p := ⟨w.heap.size, 1, none⟩) (fun h => absurd h (Nat.lt_irrefl _)) _).setCell (p := ⟨w.heap.size, 2, none⟩) (fun h => absurd h (Nat.lt_irrefl _)) _).setCell (p := ⟨w.heap.size, 3, none⟩) (fun h => absurd h (Nat.lt_irrefl _)) _).alloc _⟩
end Go.Proofs.YbulkbyskDoor
