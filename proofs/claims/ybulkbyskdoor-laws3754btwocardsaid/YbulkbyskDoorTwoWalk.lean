import Derived.Test.YbulkbyskDoorTwo
namespace Go.Proofs.YbulkbyskDoor
open Go.RowKit Go.Maps
attribute [local go_sem ↓] Go.wp_at_zero Go.wp_at_succ

theorem keys_ne {a b : Int} {ka kb : Lit} (hab : b ≠ a) (hka : keyOf Ybad.prog 43 (.agg #[.int .u8 a, .int .u8 0]) = some ka) (hkb : keyOf Ybad.prog 43 (.agg #[.int .u8 b, .int .u8 0]) = some kb) : kb ≠ ka := fun e => by
  subst e
  have h := law43.inj hka hkb
  simp at h
  exact hab h.symm

set_option maxHeartbeats 2000000 in
theorem two_walk (a b s1 s2 s3 n0 i1 i2 : Int) (w : World) (ha0 : 0 ≤ a) (ha1 : a ≤ 255) (hb0 : 0 ≤ b) (hb1 : b ≤ 255) (hs10 : 0 ≤ s1) (hs11 : s1 ≤ 255) (hs20 : 0 ≤ s2) (hs21 : s2 ≤ 255) (hs30 : 0 ≤ s3) (hs31 : s3 ≤ 255)
    (hn0 : -9223372036854775808 ≤ n0) (hn1 : n0 ≤ 9223372036854775807) (hi10 : -9223372036854775808 ≤ i1) (hi11 : i1 ≤ 9223372036854775807) (hi20 : -9223372036854775808 ≤ i2) (hi21 : i2 ≤ 9223372036854775807) (hG : GlobOK w.heap.size w) :
    Calls Ybad.prog 4 #[.int .u8 a, .int .u8 b, .int .u8 s1, .int .u8 s2, .int .u8 s3, .int .i64 n0, .int .i64 i1, .int .i64 i2] w fun e w' => e = .returned (.bool true) ∧ Chg (fun _ => False) w w' := by
  have wa : (Lit.int .u8 (a % 7)).wf = true := WalkArith.wf_u8 (by omega)
  have wb : (Lit.int .u8 ((a % 7 + 1 + b % 6) % 7)).wf = true := WalkArith.wf_u8 (by omega)
  obtain ⟨ka, hka⟩ := key43 (a % 7) 0 wa (by decide)
  obtain ⟨kb, hkb⟩ := key43 ((a % 7 + 1 + b % 6) % 7) 0 wb (by decide)
  have hne : kb ≠ ka := keys_ne (by omega) hka hkb
  have HV := hide (fun d0 => V0_facts w d0 (a % 7) ((a % 7 + 1 + b % 6) % 7) hG)
  have WA := hide wa
  have WB := hide wb
  have HKA := hide hka
  have HKB := hide hkb
  have HNE := hide hne
  clear hG wa wb hka hkb hne
  go_enter Ybad.func4, Ybad.ntmps4
  go_wp2_with fail
  refine (clamp_any n0 hn0 hn1 _).mono ?_
  rintro e w1 ⟨⟨d0, hd0, hd1, rfl⟩, rfl⟩
  go_wp2_with fail
  refine (clamp_any i1 hi10 hi11 _).mono ?_
  rintro e w1 ⟨⟨d1, hd10, hd11, rfl⟩, rfl⟩
  go_wp2_with fail
  refine (clamp_any i2 hi20 hi21 _).mono ?_
  rintro e w1 ⟨⟨d2, hd20, hd21, rfl⟩, rfl⟩
  go_wp2_with fail
  refine (state_any s1 hs10 hs11 _).mono ?_
  rintro e w1 ⟨⟨st1, h10, h11, rfl⟩, rfl⟩
  go_wp2_with fail
  refine (state_any s2 hs20 hs21 _).mono ?_
  rintro e w1 ⟨⟨st2, h20, h21, rfl⟩, rfl⟩
  go_wp2_with fail
  refine (state_any s3 hs30 hs31 _).mono ?_
  rintro e w1 ⟨⟨st3, h30, h31, rfl⟩, rfl⟩
  go_wp2_with fail
  refine (step1 (HV.out d0).1 (HV.out d0).2 WA.out HKA.out h10 h11 hd0 (by omega)).mono ?_
  rintro e w1 ⟨rfl, hF, hX⟩
  have c1 : w1.cell? ⟨w.heap.size + 1, 0, none⟩ = some (.int .i64 d0) := hF.now
  have f1 : w1.frozen? ⟨w.heap.size + 1, 0, none⟩ = false := by simp [World.frozen?, hF.c]
  have HF1 := hide (hF.setNow (d0 + d1))
  have HX1 := hide (hX.keep (keep_now w1 (.int .i64 (d0 + d1))))
  clear hF hX
  go_wp2_with fail
  refine (step2 HF1.out HX1.out WB.out HKB.out HNE.out h20 h21 (by omega) (by omega) (by omega)).mono ?_
  clear c1 f1
  rintro e w2 ⟨rfl, hF, hX⟩
  have c1 : w2.cell? ⟨w.heap.size + 1, 0, none⟩ = some (.int .i64 (d0 + d1)) := hF.now
  have f1 : w2.frozen? ⟨w.heap.size + 1, 0, none⟩ = false := by simp [World.frozen?, hF.c]
  have HF2 := hide (hF.setNow (d0 + d1 + d2))
  have HX2 := hide (hX.keep (keep_now w2 (.int .i64 (d0 + d1 + d2))))
  clear hF hX
  go_wp2_with fail
  refine (step3 HF2.out HX2.out WA.out HKA.out HNE.out h30 h31 (by omega) (by omega) (by omega)).mono ?_
  clear c1 f1
  rintro e w3 ⟨rfl, hF, hX⟩
  have HC := hide hF.chg
  have HX := hide hX
  have l0 : w3.cell? ⟨w.heap.size + 1 + 1 + 1 + 1, 0, none⟩ = some (.int .u8 (a % 7)) := by simp [World.cell?, show w3.heap[_]? = _ from hF.la]
  have l1 : w3.cell? ⟨w.heap.size + 1 + 1 + 1 + 1, 1, none⟩ = some (.int .u8 0) := by simp [World.cell?, show w3.heap[_]? = _ from hF.la]
  have l2 : w3.cell? ⟨w.heap.size + 1 + 1 + 1 + 1, 2, none⟩ = some (.int .u8 st3) := by simp [World.cell?, show w3.heap[_]? = _ from hF.la]
  have m0 : w3.cell? ⟨w.heap.size + 1 + 1 + 1 + 1 + 1, 0, none⟩ = some (.int .u8 ((a % 7 + 1 + b % 6) % 7)) := by simp [World.cell?, show w3.heap[_]? = _ from hF.lb]
  have m1 : w3.cell? ⟨w.heap.size + 1 + 1 + 1 + 1 + 1, 1, none⟩ = some (.int .u8 0) := by simp [World.cell?, show w3.heap[_]? = _ from hF.lb]
  have m2 : w3.cell? ⟨w.heap.size + 1 + 1 + 1 + 1 + 1, 2, none⟩ = some (.int .u8 st2) := by simp [World.cell?, show w3.heap[_]? = _ from hF.lb]
  have a0 : w3.cell? ⟨w.heap.size + 1 + 1, 0, none⟩ = some (.int .u8 (a % 7)) := by simp [World.cell?, hF.ta]
  have a1 : w3.cell? ⟨w.heap.size + 1 + 1, 1, none⟩ = some (.int .u8 0) := by simp [World.cell?, hF.ta]
  have b0 : w3.cell? ⟨w.heap.size + 1 + 1 + 1, 0, none⟩ = some (.int .u8 ((a % 7 + 1 + b % 6) % 7)) := by simp [World.cell?, hF.tb]
  have b1 : w3.cell? ⟨w.heap.size + 1 + 1 + 1, 1, none⟩ = some (.int .u8 0) := by simp [World.cell?, hF.tb]
  have hz := hF.hz
  clear hF hX
  go_wp2_with fail
  have HX' := hide (show X3 w.heap.size (a % 7) ((a % 7 + 1 + b % 6) % 7) st2 st3 (d0 + d1) (d0 + d1 + d2) w3 from HX.out)
  unfold X3 at HX'
  by_cases hs2 : supHas st2 = true
  · rw [if_pos hs2] at HX'
    obtain ⟨g, cap, n, t, ord, ix, c6, hn, hn2, hg, ht⟩ := HX'.out
    have S2 := hide hs2
    refine (exp_yes _ g cap n t _ _ _ _ ord ix w3 c6 hn hn2 hg ht).mono ?_
    rintro e w4 ⟨rfl, hc4⟩
    have p0 := hc4.cell a0 (fun x => x)
    have p1 := hc4.cell a1 (fun x => x)
    have q0 := hc4.cell b0 (fun x => x)
    have q1 := hc4.cell b1 (fun x => x)
    have pl := World.block_lt_of_cell? w4 _ p0
    have ql := World.block_lt_of_cell? w4 _ q0
    have HC4 := hide hc4
    clear hc4 c6 hg ht a0 a1 b0 b1 l0 l1 l2 m0 m1 m2 HX HX' hs2
    go_wp2_with fail
    refine (bsup_any st2 h20 h21 _).mono ?_
    rintro e w5 ⟨rfl, rfl⟩
    rw [S2.out]
    go_wp2
    go_ret
    exact ⟨rfl, (HC.out.step HC4.out (fun _ _ x => x)).alloc _⟩
  · rw [if_neg hs2] at HX'
    by_cases hs3 : supHas st3 = true
    · rw [if_pos hs3] at HX'
      obtain ⟨g, cap, n, t, ord, ix, c6, hn, hn2, hg, ht⟩ := HX'.out
      have S2 := hide (Bool.eq_false_iff.2 hs2)
      have S3 := hide hs3
      refine (exp_yes _ g cap n t _ _ _ _ ord ix w3 c6 hn hn2 hg ht).mono ?_
      rintro e w4 ⟨rfl, hc4⟩
      have p0 := hc4.cell a0 (fun x => x)
      have p1 := hc4.cell a1 (fun x => x)
      have q0 := hc4.cell b0 (fun x => x)
      have q1 := hc4.cell b1 (fun x => x)
      have pl := World.block_lt_of_cell? w4 _ p0
      have ql := World.block_lt_of_cell? w4 _ q0
      have HC4 := hide hc4
      clear hc4 c6 hg ht a0 a1 b0 b1 l0 l1 l2 m0 m1 m2 HX HX' hs2 hs3
      go_wp2_with fail
      refine (bsup_any st2 h20 h21 _).mono ?_
      rintro e w5 ⟨rfl, rfl⟩
      rw [S2.out]
      go_wp2_with fail
      refine (bsup_any st3 h30 h31 _).mono ?_
      rintro e w5 ⟨rfl, rfl⟩
      rw [S3.out]
      go_wp2
      go_ret
      exact ⟨rfl, (HC.out.step HC4.out (fun _ _ x => x)).alloc _⟩
    · rw [if_neg hs3] at HX'
      obtain ⟨qa, cap, c6⟩ := HX'.out
      have S2 := hide (Bool.eq_false_iff.2 hs2)
      have S3 := hide (Bool.eq_false_iff.2 hs3)
      refine (exp_no _ cap qa w3 c6).mono ?_
      rintro e w4 ⟨rfl, hc4⟩
      have HC4 := hide hc4
      clear hc4 c6 a0 a1 b0 b1 l0 l1 l2 m0 m1 m2 HX HX' hs2 hs3
      go_wp2_with fail
      refine (bsup_any st2 h20 h21 _).mono ?_
      rintro e w5 ⟨rfl, rfl⟩
      rw [S2.out]
      go_wp2_with fail
      refine (bsup_any st3 h30 h31 _).mono ?_
      rintro e w5 ⟨rfl, rfl⟩
      rw [S3.out]
      go_wp2
      go_ret
      exact ⟨rfl, (HC.out.step HC4.out (fun _ _ x => x)).alloc _⟩
end Go.Proofs.YbulkbyskDoor
