import Derived.Test.YbulkbyskDoorOne
namespace Go.Proofs.YbulkbyskDoor
open Go.RowKit Go.Maps
attribute [local go_sem ↓] Go.wp_at_zero Go.wp_at_succ

/-- The station and its clock, laid. -/
def U0 (w : World) (t : Int) : World := (w.alloc (.cells #[ck 6 (w.heap.size + 1), .slice none 0 0, .slice none 0 0, .slice none 0 0, .map none, .map none, .slice none 0 0, .int .u64 0, .int .u8 0] 36)).alloc (.cells #[.int .i64 t] 37)
theorem U0_stn (w : World) (t : Int) : Stn (U0 w t) w.heap.size (ck 6 (w.heap.size + 1)) (.map none) (.map none) (.slice none 0 0) 0 := by
  unfold U0 Stn
  rw [Below.heap_alloc _ _ _ (by simp)]
  exact heap_alloc_new w _
theorem U0_c (w : World) (t : Int) : (U0 w t).heap[w.heap.size + 1]? = some (.cells #[.int .i64 t] 37 (0, 0)) := heap_new' (by simp)
theorem U0_chg (w : World) (t : Int) : Chg (fun _ => False) w (U0 w t) := ((Chg.refl _ w).alloc _).alloc _
theorem U0_size (w : World) (t : Int) : (U0 w t).heap.size = w.heap.size + 2 := by simp [U0]

theorem one_plain (w : World) (t : Int) (hG : GlobOK w.heap.size w) (h0 : 0 ≤ t) (h1 : t ≤ 4000000000000000000) : OneV w.heap.size w none t (fun _ => 30000000000) (U0 w t) :=
  ⟨hG.below ((U0_chg w t).below (Nat.le_refl _) (fun _ x => x.elim)), rfl, by rw [U0_size]; omega, U0_chg w t, U0_stn w t, U0_c w t, (fun _ h => by cases h), fun st hs w1 _ hg => due_nil _ st t hs h0 (by omega) w1 hg⟩

theorem one_set (w v : World) (t d : Int) (hG : GlobOK w.heap.size w) (h0 : 0 ≤ t) (h1 : t ≤ 4000000000000000000) (hd0 : 0 ≤ d) (hd1 : d ≤ 4000000000000000000)
    (hS : Stn v w.heap.size (ck 6 (w.heap.size + 1)) (.map (some (U0 w t).heap.size)) (.map none) (.slice none 0 0) 0) (hown : v.ownsMap Ybad.prog 40 R (U0 w t).heap.size 1 (DurD d)) (hc : Chg (fun j => j = w.heap.size) (U0 w t) v) :
    OneV w.heap.size w (some (U0 w t).heap.size) t (wdOf d) v := by
  have hz := U0_size w t
  have hch : Chg (fun _ => False) w v := (U0_chg w t).step hc (fun k hk e => by omega)
  refine ⟨hG.below (hch.below (Nat.le_refl _) (fun _ x => x.elim)), rfl, by have := hc.size; omega, hch, hS, (hc.block _ (by omega) (by omega)).trans (U0_c w t), fun M hM => ?_, fun st hs w1 hm hg => ?_⟩
  · cases hM
    exact ⟨by omega, hown.lt⟩
  · exact due_set _ _ 1 st t d hs h0 h1 hd0 hd1 w1 hg (map40_block hown (hm _ rfl))

theorem step_at {B z : Nat} {w0 v : World} {dr : Option Nat} {now : Int} {wd : Int → Int} (hV : OneV B w0 dr now wd v) (hz : v.heap.size = z) (va side hold st : Int) (ha : (Lit.int .u8 va).wf = true) (hs : (Lit.int .u8 side).wf = true) (h0 : 0 ≤ st) (h1 : st ≤ 255) :
    Calls Ybad.prog 9 #[.pointer (some ⟨B, 0, none⟩), .pointer (some ⟨z + 1, 0, none⟩), .int .u8 st] ((v.alloc (.cells #[.int .u8 va, .int .u8 side] 43)).alloc (.cells #[.int .u8 va, .int .u8 side, .int .u8 0, .int .u8 hold] 49)) fun e w' =>
      e = .returned (.tuple #[]) ∧ OneW B z w0 va side hold now st wd w' := by
  subst hz
  exact step_one hV va side hold st ha hs h0 h1

/-- The cells that the law reads behind 'enter'. -/
theorem OneW.cells {B z : Nat} {w0 w : World} {va side hold now st : Int} {wd : Int → Int} (h : OneW B z w0 va side hold now st wd w) :
    (w.cell? ⟨z + 1, 0, none⟩ = some (.int .u8 va) ∧ w.cell? ⟨z + 1, 1, none⟩ = some (.int .u8 side) ∧ w.cell? ⟨z + 1, 2, none⟩ = some (.int .u8 st) ∧ w.cell? ⟨z + 1, 3, none⟩ = some (.int .u8 hold)) ∧
    (w.cell? ⟨z, 0, none⟩ = some (.int .u8 va) ∧ w.cell? ⟨z, 1, none⟩ = some (.int .u8 side)) ∧ w.cell? ⟨B + 1, 0, none⟩ = some (.int .i64 now) ∧
    (w.cell? ⟨B, 1, none⟩ = some (.slice none 0 0) ∧ w.cell? ⟨B, 2, none⟩ = some (.slice none 0 0) ∧ w.cell? ⟨B, 3, none⟩ = some (.slice none 0 0) ∧ w.cell? ⟨B, 8, none⟩ = some (.int .u8 0)) := by
  obtain ⟨clk, du, mv, q, n, hS⟩ := h.stn
  have hL := h.leg
  exact ⟨⟨by simp [World.cell?, show w.heap[z + 1]? = _ from hL], by simp [World.cell?, show w.heap[z + 1]? = _ from hL], by simp [World.cell?, show w.heap[z + 1]? = _ from hL], by simp [World.cell?, show w.heap[z + 1]? = _ from hL]⟩, ⟨by simp [World.cell?, h.ti], by simp [World.cell?, h.ti]⟩, by simp [World.cell?, h.c],
    ⟨by simp [World.cell?, show w.heap[B]? = _ from hS], by simp [World.cell?, show w.heap[B]? = _ from hS], by simp [World.cell?, show w.heap[B]? = _ from hS], by simp [World.cell?, show w.heap[B]? = _ from hS]⟩⟩

set_option maxHeartbeats 4000000 in
theorem one_ff (tiv hold sel now d : Int) (w : World) (ht0 : 0 ≤ tiv) (ht1 : tiv ≤ 255) (hs0 : 0 ≤ sel) (hs1 : sel ≤ 255)
    (hn0 : -9223372036854775808 ≤ now) (hn1 : now ≤ 9223372036854775807) (hG : GlobOK w.heap.size w) :
    Calls Ybad.prog 3 #[.int .u8 tiv, .bool false, .int .u8 hold, .int .u8 sel, .int .i64 now, .bool false, .int .i64 d] w fun e w' => e = .returned (.bool true) ∧ Chg (fun _ => False) w w' := by
  have wa : (Lit.int .u8 (tiv % 7)).wf = true := WalkArith.wf_u8 (by omega)
  have HG := hide hG
  have WA := hide wa
  clear hG wa
  go_enter Ybad.func3, Ybad.ntmps3
  go_wp2_with fail
  refine (clamp_any now hn0 hn1 _).mono ?_
  rintro e w1 ⟨⟨t, hd0, hd1, rfl⟩, rfl⟩
  have HV := hide (one_plain w t HG.out hd0 (by omega))
  go_wp2_with fail
  refine (state_any sel hs0 hs1 _).mono ?_
  rintro e w1 ⟨⟨st, h10, h11, rfl⟩, rfl⟩
  go_wp2_with fail
  refine (step_at HV.out (z := w.heap.size + 1 + 1) (U0_size w t) (tiv % 7) 0 hold st WA.out (by decide) h10 h11).mono ?_
  rintro e w2 ⟨rfl, hO⟩
  obtain ⟨⟨l0, l1, l2, l3⟩, ⟨i0, i1⟩, c0, ⟨s1, s2, s3, s8⟩⟩ := hO.cells
  have HC := hide hO.chg
  have HR := hide hO.run
  clear hO
  go_wp2_with fail
  by_cases hsup : supHas st = true
  · rw [if_pos hsup] at HR
    obtain ⟨g, cap, n, tm, ord, ix, c6, hn, hn2, hg, htm⟩ := HR.out
    have SUP := hide hsup
    refine (exp_yes _ g cap n tm _ _ _ _ ord ix w2 c6 hn hn2 hg htm).mono ?_
    rintro e w4 ⟨rfl, hc4⟩
    have p0 := hc4.cell i0 (fun x => x)
    have p1 := hc4.cell i1 (fun x => x)
    have q0 := hc4.cell c0 (fun x => x)
    have pl := World.block_lt_of_cell? w4 _ p0
    have ql := World.block_lt_of_cell? w4 _ q0
    have HC4 := hide hc4
    clear hc4 c6 hg htm i0 i1 c0 l0 l1 l2 l3 s1 s2 s3 s8 HR hsup
    by_cases e3 : st = 3
    · subst e3
      go_wp2_with fail
      refine (bsup_any 3 h10 h11 _).mono ?_
      rintro e w5 ⟨rfl, rfl⟩
      rw [SUP.out]
      go_wp2
      go_ret
      exact ⟨rfl, (HC.out.step HC4.out (fun _ _ x => x)).alloc _⟩
    · go_wp2_with fail
      refine (bsup_any st h10 h11 _).mono ?_
      rintro e w5 ⟨rfl, rfl⟩
      rw [SUP.out]
      go_wp2
      go_ret
      exact ⟨rfl, (HC.out.step HC4.out (fun _ _ x => x)).alloc _⟩
  · rw [if_neg hsup] at HR
    obtain ⟨qa, cap, c6⟩ := HR.out
    have SUP := hide (Bool.eq_false_iff.2 hsup)
    refine (exp_no _ cap qa w2 c6).mono ?_
    rintro e w4 ⟨rfl, hc4⟩
    have HC4 := hide hc4
    clear hc4 c6 i0 i1 c0 l0 l1 l2 l3 s1 s2 s3 s8 HR hsup
    go_wp2_with fail
    refine (bsup_any st h10 h11 _).mono ?_
    rintro e w5 ⟨rfl, rfl⟩
    rw [SUP.out]
    go_wp2
    go_ret
    exact ⟨rfl, (HC.out.step HC4.out (fun _ _ x => x)).alloc _⟩


set_option maxHeartbeats 4000000 in
theorem one_tf (tiv hold sel now d : Int) (w : World) (ht0 : 0 ≤ tiv) (ht1 : tiv ≤ 255) (hs0 : 0 ≤ sel) (hs1 : sel ≤ 255)
    (hn0 : -9223372036854775808 ≤ now) (hn1 : now ≤ 9223372036854775807) (hG : GlobOK w.heap.size w) :
    Calls Ybad.prog 3 #[.int .u8 tiv, .bool true, .int .u8 hold, .int .u8 sel, .int .i64 now, .bool false, .int .i64 d] w fun e w' => e = .returned (.bool true) ∧ Chg (fun _ => False) w w' := by
  have wa : (Lit.int .u8 (tiv % 7)).wf = true := WalkArith.wf_u8 (by omega)
  have HG := hide hG
  have WA := hide wa
  clear hG wa
  go_enter Ybad.func3, Ybad.ntmps3
  go_wp2_with fail
  refine (clamp_any now hn0 hn1 _).mono ?_
  rintro e w1 ⟨⟨t, hd0, hd1, rfl⟩, rfl⟩
  have HV := hide (one_plain w t HG.out hd0 (by omega))
  go_wp2_with fail
  refine (state_any sel hs0 hs1 _).mono ?_
  rintro e w1 ⟨⟨st, h10, h11, rfl⟩, rfl⟩
  go_wp2_with fail
  refine (step_at HV.out (z := w.heap.size + 1 + 1) (U0_size w t) (tiv % 7) 1 hold st WA.out (by decide) h10 h11).mono ?_
  rintro e w2 ⟨rfl, hO⟩
  obtain ⟨⟨l0, l1, l2, l3⟩, ⟨i0, i1⟩, c0, ⟨s1, s2, s3, s8⟩⟩ := hO.cells
  have HC := hide hO.chg
  have HR := hide hO.run
  clear hO
  go_wp2_with fail
  by_cases hsup : supHas st = true
  · rw [if_pos hsup] at HR
    obtain ⟨g, cap, n, tm, ord, ix, c6, hn, hn2, hg, htm⟩ := HR.out
    have SUP := hide hsup
    refine (exp_yes _ g cap n tm _ _ _ _ ord ix w2 c6 hn hn2 hg htm).mono ?_
    rintro e w4 ⟨rfl, hc4⟩
    have p0 := hc4.cell i0 (fun x => x)
    have p1 := hc4.cell i1 (fun x => x)
    have q0 := hc4.cell c0 (fun x => x)
    have pl := World.block_lt_of_cell? w4 _ p0
    have ql := World.block_lt_of_cell? w4 _ q0
    have HC4 := hide hc4
    clear hc4 c6 hg htm i0 i1 c0 l0 l1 l2 l3 s1 s2 s3 s8 HR hsup
    by_cases e3 : st = 3
    · subst e3
      go_wp2_with fail
      refine (bsup_any 3 h10 h11 _).mono ?_
      rintro e w5 ⟨rfl, rfl⟩
      rw [SUP.out]
      go_wp2
      go_ret
      exact ⟨rfl, (HC.out.step HC4.out (fun _ _ x => x)).alloc _⟩
    · go_wp2_with fail
      refine (bsup_any st h10 h11 _).mono ?_
      rintro e w5 ⟨rfl, rfl⟩
      rw [SUP.out]
      go_wp2
      go_ret
      exact ⟨rfl, (HC.out.step HC4.out (fun _ _ x => x)).alloc _⟩
  · rw [if_neg hsup] at HR
    obtain ⟨qa, cap, c6⟩ := HR.out
    have SUP := hide (Bool.eq_false_iff.2 hsup)
    refine (exp_no _ cap qa w2 c6).mono ?_
    rintro e w4 ⟨rfl, hc4⟩
    have HC4 := hide hc4
    clear hc4 c6 i0 i1 c0 l0 l1 l2 l3 s1 s2 s3 s8 HR hsup
    go_wp2_with fail
    refine (bsup_any st h10 h11 _).mono ?_
    rintro e w5 ⟨rfl, rfl⟩
    rw [SUP.out]
    go_wp2
    go_ret
    exact ⟨rfl, (HC.out.step HC4.out (fun _ _ x => x)).alloc _⟩


set_option maxHeartbeats 4000000 in
theorem one_ft (tiv hold sel now d : Int) (w : World) (ht0 : 0 ≤ tiv) (ht1 : tiv ≤ 255) (hs0 : 0 ≤ sel) (hs1 : sel ≤ 255)
    (hn0 : -9223372036854775808 ≤ now) (hn1 : now ≤ 9223372036854775807) (hx0 : -9223372036854775808 ≤ d) (hx1 : d ≤ 9223372036854775807) (hG : GlobOK w.heap.size w) :
    Calls Ybad.prog 3 #[.int .u8 tiv, .bool false, .int .u8 hold, .int .u8 sel, .int .i64 now, .bool true, .int .i64 d] w fun e w' => e = .returned (.bool true) ∧ Chg (fun _ => False) w w' := by
  have wa : (Lit.int .u8 (tiv % 7)).wf = true := WalkArith.wf_u8 (by omega)
  have HG := hide hG
  have WA := hide wa
  clear hG wa
  go_enter Ybad.func3, Ybad.ntmps3
  go_wp2_with fail
  refine (clamp_any now hn0 hn1 _).mono ?_
  rintro e w1 ⟨⟨t, hd0, hd1, rfl⟩, rfl⟩
  go_wp2_with fail
  refine (clamp_any d hx0 hx1 _).mono ?_
  rintro e w1 ⟨⟨dd, hdd0, hdd1, rfl⟩, rfl⟩
  have HSET := hide (set_timer w.heap.size (ck 6 (w.heap.size + 1)) (.map none) (.slice none 0 0) 0 (dd + 1) (U0 w t) (U0_stn w t))
  go_wp2_with fail
  refine HSET.out.mono ?_
  rintro e v ⟨rfl, hSv, hown, hcv⟩
  have HV := hide (one_set w v t (dd + 1) HG.out hd0 (by omega) (by omega) (by omega) hSv hown hcv)
  clear hSv hown hcv HSET
  go_wp2_with fail
  refine (state_any sel hs0 hs1 _).mono ?_
  rintro e w1 ⟨⟨st, h10, h11, rfl⟩, rfl⟩
  go_wp2_with fail
  refine (step_at HV.out (z := v.heap.size) rfl (tiv % 7) 0 hold st WA.out (by decide) h10 h11).mono ?_
  rintro e w2 ⟨rfl, hO⟩
  obtain ⟨⟨l0, l1, l2, l3⟩, ⟨i0, i1⟩, c0, ⟨s1, s2, s3, s8⟩⟩ := hO.cells
  have HC := hide hO.chg
  have HR := hide hO.run
  clear hO
  go_wp2_with fail
  by_cases hsup : supHas st = true
  · rw [if_pos hsup] at HR
    obtain ⟨g, cap, n, tm, ord, ix, c6, hn, hn2, hg, htm⟩ := HR.out
    have SUP := hide hsup
    refine (exp_yes _ g cap n tm _ _ _ _ ord ix w2 c6 hn hn2 hg htm).mono ?_
    rintro e w4 ⟨rfl, hc4⟩
    have p0 := hc4.cell i0 (fun x => x)
    have p1 := hc4.cell i1 (fun x => x)
    have q0 := hc4.cell c0 (fun x => x)
    have pl := World.block_lt_of_cell? w4 _ p0
    have ql := World.block_lt_of_cell? w4 _ q0
    have HC4 := hide hc4
    clear hc4 c6 hg htm i0 i1 c0 l0 l1 l2 l3 s1 s2 s3 s8 HR hsup
    by_cases e3 : st = 3
    · subst e3
      go_wp2_with fail
      refine (bsup_any 3 h10 h11 _).mono ?_
      rintro e w5 ⟨rfl, rfl⟩
      rw [SUP.out, show wdOf (dd + 1) 3 = dd + 1 from rfl]
      go_wp2
      go_ret
      exact ⟨rfl, (HC.out.step HC4.out (fun _ _ x => x)).alloc _⟩
    · have WD := hide (show wdOf (dd + 1) st = 30000000000 by simp [wdOf, e3])
      go_wp2_with fail
      refine (bsup_any st h10 h11 _).mono ?_
      rintro e w5 ⟨rfl, rfl⟩
      rw [SUP.out, WD.out]
      go_wp2
      go_ret
      exact ⟨rfl, (HC.out.step HC4.out (fun _ _ x => x)).alloc _⟩
  · rw [if_neg hsup] at HR
    obtain ⟨qa, cap, c6⟩ := HR.out
    have SUP := hide (Bool.eq_false_iff.2 hsup)
    refine (exp_no _ cap qa w2 c6).mono ?_
    rintro e w4 ⟨rfl, hc4⟩
    have HC4 := hide hc4
    clear hc4 c6 i0 i1 c0 l0 l1 l2 l3 s1 s2 s3 s8 HR hsup
    go_wp2_with fail
    refine (bsup_any st h10 h11 _).mono ?_
    rintro e w5 ⟨rfl, rfl⟩
    rw [SUP.out]
    go_wp2
    go_ret
    exact ⟨rfl, (HC.out.step HC4.out (fun _ _ x => x)).alloc _⟩


set_option maxHeartbeats 4000000 in
theorem one_tt (tiv hold sel now d : Int) (w : World) (ht0 : 0 ≤ tiv) (ht1 : tiv ≤ 255) (hs0 : 0 ≤ sel) (hs1 : sel ≤ 255)
    (hn0 : -9223372036854775808 ≤ now) (hn1 : now ≤ 9223372036854775807) (hx0 : -9223372036854775808 ≤ d) (hx1 : d ≤ 9223372036854775807) (hG : GlobOK w.heap.size w) :
    Calls Ybad.prog 3 #[.int .u8 tiv, .bool true, .int .u8 hold, .int .u8 sel, .int .i64 now, .bool true, .int .i64 d] w fun e w' => e = .returned (.bool true) ∧ Chg (fun _ => False) w w' := by
  have wa : (Lit.int .u8 (tiv % 7)).wf = true := WalkArith.wf_u8 (by omega)
  have HG := hide hG
  have WA := hide wa
  clear hG wa
  go_enter Ybad.func3, Ybad.ntmps3
  go_wp2_with fail
  refine (clamp_any now hn0 hn1 _).mono ?_
  rintro e w1 ⟨⟨t, hd0, hd1, rfl⟩, rfl⟩
  go_wp2_with fail
  refine (clamp_any d hx0 hx1 _).mono ?_
  rintro e w1 ⟨⟨dd, hdd0, hdd1, rfl⟩, rfl⟩
  have HSET := hide (set_timer w.heap.size (ck 6 (w.heap.size + 1)) (.map none) (.slice none 0 0) 0 (dd + 1) (U0 w t) (U0_stn w t))
  go_wp2_with fail
  refine HSET.out.mono ?_
  rintro e v ⟨rfl, hSv, hown, hcv⟩
  have HV := hide (one_set w v t (dd + 1) HG.out hd0 (by omega) (by omega) (by omega) hSv hown hcv)
  clear hSv hown hcv HSET
  go_wp2_with fail
  refine (state_any sel hs0 hs1 _).mono ?_
  rintro e w1 ⟨⟨st, h10, h11, rfl⟩, rfl⟩
  go_wp2_with fail
  refine (step_at HV.out (z := v.heap.size) rfl (tiv % 7) 1 hold st WA.out (by decide) h10 h11).mono ?_
  rintro e w2 ⟨rfl, hO⟩
  obtain ⟨⟨l0, l1, l2, l3⟩, ⟨i0, i1⟩, c0, ⟨s1, s2, s3, s8⟩⟩ := hO.cells
  have HC := hide hO.chg
  have HR := hide hO.run
  clear hO
  go_wp2_with fail
  by_cases hsup : supHas st = true
  · rw [if_pos hsup] at HR
    obtain ⟨g, cap, n, tm, ord, ix, c6, hn, hn2, hg, htm⟩ := HR.out
    have SUP := hide hsup
    refine (exp_yes _ g cap n tm _ _ _ _ ord ix w2 c6 hn hn2 hg htm).mono ?_
    rintro e w4 ⟨rfl, hc4⟩
    have p0 := hc4.cell i0 (fun x => x)
    have p1 := hc4.cell i1 (fun x => x)
    have q0 := hc4.cell c0 (fun x => x)
    have pl := World.block_lt_of_cell? w4 _ p0
    have ql := World.block_lt_of_cell? w4 _ q0
    have HC4 := hide hc4
    clear hc4 c6 hg htm i0 i1 c0 l0 l1 l2 l3 s1 s2 s3 s8 HR hsup
    by_cases e3 : st = 3
    · subst e3
      go_wp2_with fail
      refine (bsup_any 3 h10 h11 _).mono ?_
      rintro e w5 ⟨rfl, rfl⟩
      rw [SUP.out, show wdOf (dd + 1) 3 = dd + 1 from rfl]
      go_wp2
      go_ret
      exact ⟨rfl, (HC.out.step HC4.out (fun _ _ x => x)).alloc _⟩
    · have WD := hide (show wdOf (dd + 1) st = 30000000000 by simp [wdOf, e3])
      go_wp2_with fail
      refine (bsup_any st h10 h11 _).mono ?_
      rintro e w5 ⟨rfl, rfl⟩
      rw [SUP.out, WD.out]
      go_wp2
      go_ret
      exact ⟨rfl, (HC.out.step HC4.out (fun _ _ x => x)).alloc _⟩
  · rw [if_neg hsup] at HR
    obtain ⟨qa, cap, c6⟩ := HR.out
    have SUP := hide (Bool.eq_false_iff.2 hsup)
    refine (exp_no _ cap qa w2 c6).mono ?_
    rintro e w4 ⟨rfl, hc4⟩
    have HC4 := hide hc4
    clear hc4 c6 i0 i1 c0 l0 l1 l2 l3 s1 s2 s3 s8 HR hsup
    go_wp2_with fail
    refine (bsup_any st h10 h11 _).mono ?_
    rintro e w5 ⟨rfl, rfl⟩
    rw [SUP.out]
    go_wp2
    go_ret
    exact ⟨rfl, (HC.out.step HC4.out (fun _ _ x => x)).alloc _⟩

end Go.Proofs.YbulkbyskDoor
