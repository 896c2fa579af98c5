import Derived.Test.YbulkbyskDoorRun
namespace Go.Proofs.YbulkbyskDoor
open Go.RowKit Go.Maps

theorem Chg.keepL {Nb S L : Nat} (w : World) (hS : L ≠ S) (hN : L < Nb) (u : Value) : Keep Nb S w (w.setCell ⟨L, 2, none⟩ u) := keep_setCell w (p := ⟨L, 2, none⟩) hS hN u

/-- 'enter', whatever ran: the leg's timer stops; the state is set; the state's timer starts. -/
theorem enter_gen (B Nb S L : Nat) (a b c h st : Int) (h0 : 0 ≤ st) (h1 : st ≤ 255) (w : World) (E E' : World → Prop) (hL : Leg w L a b c h) (hG : GlobOK B w) (hBS : B ≤ S) (hBL : B ≤ L) (hSN : S < Nb) (hLS : L ≠ S) (hLN : L < Nb) (hNb : Nb ≤ w.heap.size)
    (hE : ∀ w1 w2, E w1 → Keep Nb S w1 w2 → E w2)
    (h13 : ∀ w1 : World, Same w w1 → Calls Ybad.prog 13 #[.pointer (some ⟨S, 5, none⟩), .agg #[.int .u8 a, .int .u8 b]] w1 fun e w' => e = .returned (.tuple #[]) ∧ E w' ∧ Chg (Fr Nb S) w1 w')
    (h15 : ∀ w1, supHas st = true → E w1 → Chg (Fl Nb S L) w w1 → Calls Ybad.prog 15 #[.pointer (some ⟨S, 0, none⟩), .agg #[.string (supName st), .int .u8 a, .int .u8 b, .int .i64 0, .int .u8 0, .bool false]] w1 fun e w' => e = .returned (.tuple #[]) ∧ E' w' ∧ Chg (Fr Nb S) w1 w') :
    Calls Ybad.prog 9 #[.pointer (some ⟨S, 0, none⟩), .pointer (some ⟨L, 0, none⟩), .int .u8 st] w fun e w' => e = .returned (.tuple #[]) ∧ (if supHas st = true then E' w' else E w') ∧ Leg w' L a b st h ∧ Chg (Fl Nb S L) w w' := by
  have hsub : ∀ j, Fr Nb S j → Fl Nb S L j := fun j e => e.elim .inl (fun e => .inr (.inr e))
  have hnot : ¬ Fr Nb S L := fun e => e.elim hLS (fun e => by omega)
  have hC : ∀ w1, Chg (Fr Nb S) w w1 → Chg (Fl Nb S L) w (w1.setCell ⟨L, 2, none⟩ (.int .u8 st)) := fun w1 hc => (hc.mono hsub).setCell (p := ⟨L, 2, none⟩) (fun _ => .inr (.inl rfl)) _
  have hP : ∀ w1, (E w1 ∧ Chg (Fr Nb S) w w1) → Leg w1 L a b c h ∧ GlobOK B (w1.setCell ⟨L, 2, none⟩ (.int .u8 st)) := fun w1 hp =>
    ⟨hL.block (hp.2.block L hL.lt hnot), hG.below ((hC w1 hp.2).below (by omega) (fun k e => by rcases e with e | e | e <;> omega))⟩
  have h13' : ∀ w1 : World, Same w w1 → Calls Ybad.prog 13 #[.pointer (some ⟨S, 5, none⟩), .agg #[.int .u8 a, .int .u8 b]] w1 fun e w' => e = .returned (.tuple #[]) ∧ (E w' ∧ Chg (Fr Nb S) w w') := fun w1 hs => by
    refine (h13 w1 hs).mono ?_
    rintro e w' ⟨rfl, he, hc⟩
    exact ⟨rfl, he, (hs.chg _).step hc (fun _ _ x => x)⟩
  by_cases hsup : supHas st = true
  · refine (enter_yes B S L a b c h st h0 h1 w (fun w' => E w' ∧ Chg (Fr Nb S) w w') (fun w' => E' w' ∧ Leg w' L a b st h ∧ Chg (Fl Nb S L) w w') hL hsup h13' hP (fun w1 hp => ?_)).mono ?_
    · have hl1 := (hP w1 hp).1
      refine (h15 (w1.setCell ⟨L, 2, none⟩ (.int .u8 st)) hsup (hE _ _ hp.1 (keep_setCell w1 (p := ⟨L, 2, none⟩) hLS hLN _)) (hC w1 hp.2)).mono ?_
      rintro e w' ⟨rfl, he, hc⟩
      have hl2 := hl1.setC st
      exact ⟨rfl, he, hl2.block (hc.block L hl2.lt hnot), (hC w1 hp.2).step hc (fun j _ e => hsub j e)⟩
    · rintro e w' ⟨rfl, he, hl, hc⟩
      exact ⟨rfl, by rw [if_pos hsup]; exact he, hl, hc⟩
  · refine (enter_no B S L a b c h st h0 h1 w (fun w' => E w' ∧ Chg (Fr Nb S) w w') hL (by simpa using hsup) h13' hP).mono ?_
    rintro e w' ⟨rfl, w1, hp, rfl⟩
    refine ⟨rfl, ?_, (hP w1 hp).1.setC st, hC w1 hp.2⟩
    rw [if_neg hsup]
    exact hE _ _ hp.1 (keep_setCell w1 (p := ⟨L, 2, none⟩) hLS hLN _)

attribute [local go_sem ↓] Go.wp_at_zero Go.wp_at_succ
/-- 'zzs3754bclamp': small and not below nought. -/
theorem clamp_any (n : Int) (h0 : -9223372036854775808 ≤ n) (h1 : n ≤ 9223372036854775807) (w : World) : Calls Ybad.prog 5 #[.int .i64 n] w fun e w' => (∃ d : Int, 0 ≤ d ∧ d < 1099511627776 ∧ e = .returned (.int .i64 d)) ∧ w = w' := by
  by_cases hn : n < 0
  · have e : (0 : Int) ≤ -(n + 1) := by omega
    go_enter Ybad.func5, Ybad.ntmps5
    go_wp2
    go_ret
    refine ⟨⟨_, ?_, ?_, rfl⟩, rfl⟩
    all_goals (rw [← Int.neg_tmod, Int.tmod_eq_emod_of_nonneg e]; omega)
  · go_enter Ybad.func5, Ybad.ntmps5
    go_wp2
    go_ret
    refine ⟨⟨_, ?_, ?_, rfl⟩, rfl⟩
    all_goals omega
/-- 'zzs3754bstate': a state. -/
theorem state_any (n : Int) (h0 : 0 ≤ n) (h1 : n ≤ 255) (w : World) : Calls Ybad.prog 8 #[.int .u8 n] w fun e w' => (∃ d : Int, 0 ≤ d ∧ d ≤ 255 ∧ e = .returned (.int .u8 d)) ∧ w = w' := by
  go_enter Ybad.func8, Ybad.ntmps8
  go_wp2
  all_goals (go_ret; exact ⟨⟨_, by omega, by omega, rfl⟩, rfl⟩)
/-- 'zzs3754bsup'. -/
theorem bsup_any (st : Int) (h0 : 0 ≤ st) (h1 : st ≤ 255) (w : World) : Calls Ybad.prog 11 #[.int .u8 st] w fun e w' => e = .returned (.tuple #[.string (supName st), .bool (supHas st)]) ∧ w = w' := by
  by_cases e1 : st = 1
  · subst e1
    go_enter Ybad.func11, Ybad.ntmps11
    go_wp2
    go_ret2
    exact ⟨rfl, rfl⟩
  by_cases e3 : st = 3
  · subst e3
    go_enter Ybad.func11, Ybad.ntmps11
    go_wp2
    go_ret2
    exact ⟨rfl, rfl⟩
  by_cases e8 : st = 8
  · subst e8
    go_enter Ybad.func11, Ybad.ntmps11
    go_wp2
    go_ret2
    exact ⟨rfl, rfl⟩
  · have hh : supHas st = false := by simp [supHas, e1, e3, e8]
    have hm : supName st = ⟨#[]⟩ := by simp [supName, e1, e3, e8]
    rw [hh, hm]
    go_enter Ybad.func11, Ybad.ntmps11
    go_wp2
    go_ret2
    exact ⟨rfl, rfl⟩

/-- 'Next' of an empty queue. -/
theorem next_no (S cap : Nat) (qa : Option Addr) (w : World) (c6 : w.cell? ⟨S, 6, none⟩ = some (.slice qa 0 cap)) :
    Calls Ybad.prog 16 #[.pointer (some ⟨S, 5, none⟩)] w fun e w' => e = .returned (.tuple #[.agg #[.string ⟨#[]⟩, .int .u8 0, .int .u8 0, .int .i64 0, .int .u8 0, .bool false], .bool false]) ∧ Chg (fun _ => False) w w' := by
  have hS := World.block_lt_of_cell? w _ c6
  go_enter Ybad.func16, Ybad.ntmps16
  go_wp2
  try simp only [Exit.inBlock, Exit.then]
  refine bodyPost_ret (v := .tuple #[.agg #[.string ⟨#[]⟩, .int .u8 0, .int .u8 0, .int .i64 0, .int .u8 0, .bool false], .bool false]) (by simp [results, Ybad.results16, go_sem]) rfl ?_
  exact ⟨rfl, (Chg.refl _ w).alloc _⟩
/-- 'Next' of a queue. -/
theorem next_yes (S g cap n t : Nat) (nm : ByteArray) (a b due ord ix : Int) (w : World) (c6 : w.cell? ⟨S, 6, none⟩ = some (.slice (some ⟨g, 0, none⟩) n cap)) (hn : 0 < n) (hn2 : n ≤ 2) (hg : w.cell? ⟨g, 0, none⟩ = some (pt t)) (ht : Tm w t nm a b due ord ix) :
    Calls Ybad.prog 16 #[.pointer (some ⟨S, 5, none⟩)] w fun e w' => e = .returned (.tuple #[.agg #[.string nm, .int .u8 a, .int .u8 b, .int .i64 due, .int .u8 0, .bool false], .bool true]) ∧ Chg (fun _ => False) w w' := by
  have hS := World.block_lt_of_cell? w _ c6
  have hg' := World.block_lt_of_cell? w _ hg
  have htl := ht.lt
  unfold pt at hg
  have t0 : w.cell? ⟨t, 0, none⟩ = some (.string nm) := by simp [World.cell?, show w.heap[t]? = _ from ht]
  have t1 : w.cell? ⟨t, 1, none⟩ = some (.int .u8 a) := by simp [World.cell?, show w.heap[t]? = _ from ht]
  have t2 : w.cell? ⟨t, 2, none⟩ = some (.int .u8 b) := by simp [World.cell?, show w.heap[t]? = _ from ht]
  have t3 : w.cell? ⟨t, 3, none⟩ = some (.int .i64 due) := by simp [World.cell?, show w.heap[t]? = _ from ht]
  have t4 : w.cell? ⟨t, 4, none⟩ = some (.int .u8 0) := by simp [World.cell?, show w.heap[t]? = _ from ht]
  have t5 : w.cell? ⟨t, 5, none⟩ = some (.bool false) := by simp [World.cell?, show w.heap[t]? = _ from ht]
  clear ht
  go_enter Ybad.func16, Ybad.ntmps16
  go_wp2
  try simp only [Exit.inBlock, Exit.then]
  refine bodyPost_ret (v := .tuple #[.agg #[.string nm, .int .u8 a, .int .u8 b, .int .i64 due, .int .u8 0, .bool false], .bool true]) (by simp [results, Ybad.results16, go_sem]) rfl ?_
  exact ⟨rfl, (Chg.refl _ w).alloc _⟩
end Go.Proofs.YbulkbyskDoor
