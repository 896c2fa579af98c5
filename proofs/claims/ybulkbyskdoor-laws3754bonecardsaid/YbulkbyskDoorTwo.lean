import Derived.Test.YbulkbyskDoorExp
namespace Go.Proofs.YbulkbyskDoor
open Go.RowKit Go.Maps

/-- The clock of 'LawS3754BTwo'. -/
abbrev ck (f : FuncId) (c : Nat) : Value := .func (.func f) #[] #[.pointer (some ⟨c, 0, none⟩)]

theorem glob_same {B : Nat} {w w1 : World} (hG : GlobOK B w) (hB : B ≤ w.heap.size) (o : Obj) (hs : Same (w.alloc o) w1) : GlobOK B w1 :=
  hG.below ((((Chg.refl (fun _ => False) w).alloc o).step (hs.chg (fun _ => False)) (fun _ _ x => x)).below hB (fun _ x => x.elim))

/-- 'enter' where the leg's stop leaves no timer. -/
theorem enter_at0 (n B Nb L : Nat) (x y c0 h st now due : Int) (dr : Option Nat) (f : FuncId) (hf : f = 12 ∨ f = 6) (hn : n ≤ 40) (kl : Lit) (hkl : keyOf Ybad.prog 43 (.agg #[.int .u8 x, .int .u8 y]) = some kl) (w : World) (h0 : 0 ≤ st) (h1 : st ≤ 255) (hz : Nb ≤ w.heap.size) (hG : GlobOK B w)
    (hc : w.cell? ⟨B + 1, 0, none⟩ = some (.int .i64 now)) (hL : Leg w L x y c0 h) (hBL : B + 1 < L) (hLN : L < Nb)
    (hdue : ∀ w1 : World, Chg (Fl Nb B L) w w1 → supHas st = true → Calls Ybad.prog 18 #[.map dr, .string (supName st), .int .i64 now] w1 fun e w' => e = .returned (.int .i64 due) ∧ w1 = w')
    (h13 : ∀ w1 : World, Same w w1 → Calls Ybad.prog 13 #[.pointer (some ⟨B, 5, none⟩), .agg #[.int .u8 x, .int .u8 y]] w1 fun e w' => e = .returned (.tuple #[]) ∧ E0 n Nb B (ck f (B + 1)) (.map dr) w' ∧ Chg (Fr Nb B) w1 w') :
    Calls Ybad.prog 9 #[.pointer (some ⟨B, 0, none⟩), .pointer (some ⟨L, 0, none⟩), .int .u8 st] w fun e w' => e = .returned (.tuple #[]) ∧ (if supHas st = true then E1 (n + 1) Nb B (ck f (B + 1)) (.map dr) (supName st) x y due kl w' else E0 n Nb B (ck f (B + 1)) (.map dr) w') ∧ Leg w' L x y st h ∧ Chg (Fl Nb B L) w w' := by
  refine enter_gen B Nb B L x y c0 h st h0 h1 w _ _ hL hG (Nat.le_refl _) (by omega) (by omega) (by omega) hLN hz (fun _ _ he hk => he.keep hk) h13 (fun w1 hsup he hch => ?_)
  have hz1 : Nb ≤ w1.heap.size := by have := hch.size; omega
  refine run0 n Nb B (B + 1) f dr (supName st) x y now due kl hkl w1 hf (by omega) he hz1 (hch.cell hc (fun e => by rcases e with e | e | e <;> omega)) (fun w2 hs => ?_)
  exact hdue w2 (((hch.alloc _)).step (hs.chg (fun _ => False)) (fun _ _ x => x.elim)) hsup

/-- 'enter' where the leg's stop leaves another leg's timer. -/
theorem enter_at1 (n B Nb L : Nat) (x y c0 h st now due : Int) (dr : Option Nat) (f : FuncId) (hf : f = 12 ∨ f = 6) (hn : n ≤ 40) (kl ku : Lit) (hkl : keyOf Ybad.prog 43 (.agg #[.int .u8 x, .int .u8 y]) = some kl) (hne : kl ≠ ku) (nu : ByteArray) (ua ub ud : Int) (hud : ud ≤ due) (w : World) (h0 : 0 ≤ st) (h1 : st ≤ 255) (hz : Nb ≤ w.heap.size) (hG : GlobOK B w)
    (hc : w.cell? ⟨B + 1, 0, none⟩ = some (.int .i64 now)) (hL : Leg w L x y c0 h) (hBL : B + 1 < L) (hLN : L < Nb)
    (hdue : ∀ w1 : World, Chg (Fl Nb B L) w w1 → supHas st = true → Calls Ybad.prog 18 #[.map dr, .string (supName st), .int .i64 now] w1 fun e w' => e = .returned (.int .i64 due) ∧ w1 = w')
    (h13 : ∀ w1 : World, Same w w1 → Calls Ybad.prog 13 #[.pointer (some ⟨B, 5, none⟩), .agg #[.int .u8 x, .int .u8 y]] w1 fun e w' => e = .returned (.tuple #[]) ∧ E1 n Nb B (ck f (B + 1)) (.map dr) nu ua ub ud ku w' ∧ Chg (Fr Nb B) w1 w') :
    Calls Ybad.prog 9 #[.pointer (some ⟨B, 0, none⟩), .pointer (some ⟨L, 0, none⟩), .int .u8 st] w fun e w' => e = .returned (.tuple #[]) ∧ (if supHas st = true then E2 (n + 1) Nb B (ck f (B + 1)) (.map dr) nu ua ub ud ku (supName st) x y due kl w' else E1 n Nb B (ck f (B + 1)) (.map dr) nu ua ub ud ku w') ∧ Leg w' L x y st h ∧ Chg (Fl Nb B L) w w' := by
  refine enter_gen B Nb B L x y c0 h st h0 h1 w _ _ hL hG (Nat.le_refl _) (by omega) (by omega) (by omega) hLN hz (fun _ _ he hk => he.keep hk) h13 (fun w1 hsup he hch => ?_)
  have hz1 : Nb ≤ w1.heap.size := by have := hch.size; omega
  refine run1 n Nb B (B + 1) f dr (supName st) nu x y now due ua ub ud kl ku hkl hne hud w1 hf (by omega) he hz1 (hch.cell hc (fun e => by rcases e with e | e | e <;> omega)) (fun w2 hs => ?_)
  exact hdue w2 (((hch.alloc _)).step (hs.chg (fun _ => False)) (fun _ _ x => x.elim)) hsup

/-- What the walk of 'LawS3754BTwo' keeps. -/
structure Fix (B : Nat) (w0 : World) (va vb now ca cb : Int) (w : World) : Prop where
  glob : GlobOK B w
  hB : B = w0.heap.size
  hz : B + 6 ≤ w.heap.size
  chg : Chg (fun _ => False) w0 w
  c : w.heap[B + 1]? = some (.cells #[.int .i64 now] 37 (0, 0))
  ta : w.heap[B + 1 + 1]? = some (.cells #[.int .u8 va, .int .u8 0] 43 (0, 0))
  tb : w.heap[B + 1 + 1 + 1]? = some (.cells #[.int .u8 vb, .int .u8 0] 43 (0, 0))
  la : Leg w (B + 1 + 1 + 1 + 1) va 0 ca 0
  lb : Leg w (B + 1 + 1 + 1 + 1 + 1) vb 0 cb 0

theorem Fix.now {B : Nat} {w0 w : World} {va vb now ca cb : Int} (h : Fix B w0 va vb now ca cb w) : w.cell? ⟨B + 1, 0, none⟩ = some (.int .i64 now) := by simp [World.cell?, h.c]
theorem Fix.setNow {B : Nat} {w0 w : World} {va vb now ca cb : Int} (h : Fix B w0 va vb now ca cb w) (now' : Int) : Fix B w0 va vb now' ca cb (w.setCell ⟨B + 1, 0, none⟩ (.int .i64 now')) := by
  have hB := h.hB
  have hx : Chg (fun j => j = B + 1) w (w.setCell ⟨B + 1, 0, none⟩ (.int .i64 now')) := (Chg.refl (fun j => j = B + 1) w).setCell (p := ⟨B + 1, 0, none⟩) (fun _ => rfl) _
  have hk : ∀ j, j < w.heap.size → j ≠ B + 1 → (w.setCell ⟨B + 1, 0, none⟩ (.int .i64 now')).heap[j]? = w.heap[j]? := fun j hj hn => hx.block j hj hn
  exact ⟨h.glob.below (hx.below (by have := h.hz; omega) (fun k e => by omega)), hB, by have := h.hz; have := hx.size; omega, h.chg.step hx (fun k hk e => by omega), heap_setCell_same h.c, (hk _ (lt_of_block h.ta) (by omega)).trans h.ta, (hk _ (lt_of_block h.tb) (by omega)).trans h.tb, (hk _ (lt_of_block h.la) (by omega)).trans h.la, (hk _ (lt_of_block h.lb) (by omega)).trans h.lb⟩
theorem Fix.enterA {B : Nat} {w0 w w' : World} {va vb now ca cb st : Int} (h : Fix B w0 va vb now ca cb w) (hl : Leg w' (B + 1 + 1 + 1 + 1) va 0 st 0) (hc : Chg (Fl (B + 6) B (B + 1 + 1 + 1 + 1)) w w') : Fix B w0 va vb now st cb w' := by
  have hB := h.hB
  have hk : ∀ j, j < w.heap.size → (j ≠ B ∧ j ≠ B + 4 ∧ j < B + 6) → w'.heap[j]? = w.heap[j]? := fun j hj hn => hc.block j hj (fun e => by rcases e with e | e | e <;> omega)
  exact ⟨h.glob.below (hc.below (by have := h.hz; omega) (fun k e => by rcases e with e | e | e <;> omega)), hB, by have := h.hz; have := hc.size; omega, h.chg.step hc (fun k hk e => by rcases e with e | e | e <;> omega), (hk _ (lt_of_block h.c) (by omega)).trans h.c, (hk _ (lt_of_block h.ta) (by omega)).trans h.ta, (hk _ (lt_of_block h.tb) (by omega)).trans h.tb, hl, (hk _ (lt_of_block h.lb) (by omega)).trans h.lb⟩
theorem Fix.enterB {B : Nat} {w0 w w' : World} {va vb now ca cb st : Int} (h : Fix B w0 va vb now ca cb w) (hl : Leg w' (B + 1 + 1 + 1 + 1 + 1) vb 0 st 0) (hc : Chg (Fl (B + 6) B (B + 1 + 1 + 1 + 1 + 1)) w w') : Fix B w0 va vb now ca st w' := by
  have hB := h.hB
  have hk : ∀ j, j < w.heap.size → (j ≠ B ∧ j ≠ B + 5 ∧ j < B + 6) → w'.heap[j]? = w.heap[j]? := fun j hj hn => hc.block j hj (fun e => by rcases e with e | e | e <;> omega)
  exact ⟨h.glob.below (hc.below (by have := h.hz; omega) (fun k e => by rcases e with e | e | e <;> omega)), hB, by have := h.hz; have := hc.size; omega, h.chg.step hc (fun k hk e => by rcases e with e | e | e <;> omega), (hk _ (lt_of_block h.c) (by omega)).trans h.c, (hk _ (lt_of_block h.ta) (by omega)).trans h.ta, (hk _ (lt_of_block h.tb) (by omega)).trans h.tb, (hk _ (lt_of_block h.la) (by omega)).trans h.la, hl⟩

theorem Fix.due {B L : Nat} {w0 w : World} {va vb now ca cb : Int} (h : Fix B w0 va vb now ca cb w) (hL : B ≤ L) (st : Int) (h0 : 0 ≤ now) (h1 : now ≤ 9000000000000000000) :
    ∀ w1 : World, Chg (Fl (B + 6) B L) w w1 → supHas st = true → Calls Ybad.prog 18 #[.map none, .string (supName st), .int .i64 now] w1 fun e w' => e = .returned (.int .i64 (now + 30000000000)) ∧ w1 = w' := fun w1 hc hsup =>
  due_nil B st now hsup h0 h1 w1 (h.glob.below (hc.below (by have := h.hz; omega) (fun k e => by rcases e with e | e | e <;> omega)))

/-- Behind the first 'enter'. -/
def X1 (B : Nat) (va st1 t0 : Int) (ka : Lit) (w : World) : Prop :=
  if supHas st1 = true then E1 1 (B + 6) B (ck 12 (B + 1)) (.map none) (supName st1) va 0 (t0 + 30000000000) ka w else E0 0 (B + 6) B (ck 12 (B + 1)) (.map none) w
/-- Behind the second. -/
def X2 (B : Nat) (va vb st1 st2 t0 t1 : Int) (ka kb : Lit) (w : World) : Prop :=
  if supHas st2 = true then (if supHas st1 = true then E2 2 (B + 6) B (ck 12 (B + 1)) (.map none) (supName st1) va 0 (t0 + 30000000000) ka (supName st2) vb 0 (t1 + 30000000000) kb w else E1 1 (B + 6) B (ck 12 (B + 1)) (.map none) (supName st2) vb 0 (t1 + 30000000000) kb w) else X1 B va st1 t0 ka w
/-- The first timer of the queue. -/
def Head (S : Nat) (nm : ByteArray) (a b due : Int) (w : World) : Prop := ∃ g cap n t ord ix, w.cell? ⟨S, 6, none⟩ = some (.slice (some ⟨g, 0, none⟩) n cap) ∧ 0 < n ∧ n ≤ 2 ∧ w.cell? ⟨g, 0, none⟩ = some (pt t) ∧ Tm w t nm a b due ord ix
def Empty (S : Nat) (w : World) : Prop := ∃ qa cap, w.cell? ⟨S, 6, none⟩ = some (.slice qa 0 cap)
/-- Behind the third. -/
def X3 (B : Nat) (va vb st2 st3 t1 t2 : Int) (w : World) : Prop :=
  if supHas st2 = true then Head B (supName st2) vb 0 (t1 + 30000000000) w else if supHas st3 = true then Head B (supName st3) va 0 (t2 + 30000000000) w else Empty B w

theorem E0.empty {n Nb S : Nat} {clk du : Value} {w : World} (h : E0 n Nb S clk du w) : Empty S w := by
  obtain ⟨hS, st, h0, h1, h | ⟨M, k, D, g, cap, hC, hk9, hno⟩⟩ := h
  · exact ⟨_, _, by simp [World.cell?, show w.heap[S]? = _ from h]; exact ⟨rfl, rfl⟩⟩
  · exact ⟨_, _, by simp [World.cell?, show w.heap[S]? = _ from hC.stn]; exact ⟨rfl, rfl⟩⟩
theorem E1.head {n Nb S : Nat} {clk du : Value} {nm : ByteArray} {a b due : Int} {kl : Lit} {w : World} (h : E1 n Nb S clk du nm a b due kl w) : Head S nm a b due w := by
  obtain ⟨st, M, k, D, g, cap, t, ord, h0, h1, hk9, ho, hC, ht, hN, hat, hno⟩ := h
  exact ⟨g, cap, 1, t, ord, 0, by simp [World.cell?, show w.heap[S]? = _ from hC.stn], by omega, by omega, hC.row.cellAt 0 (by omega), ht⟩
theorem E2.head {n Nb S : Nat} {clk du : Value} {nm nu : ByteArray} {a b due ua ub ud : Int} {kl ku : Lit} {w : World} (h : E2 n Nb S clk du nm a b due kl nu ua ub ud ku w) : Head S nm a b due w := by
  obtain ⟨st, M, k, D, g, cap, t, u, ord, ou, h0, h1, hk9, ho, hC, ht, hu, hN, hM, r⟩ := h
  exact ⟨g, cap, 2, t, ord, 0, by simp [World.cell?, show w.heap[S]? = _ from hC.stn], by omega, by omega, hC.row.cellAt 0 (by omega), ht⟩

theorem keep_now {B : Nat} (w : World) (u : Value) : Keep (B + 6) B w (w.setCell ⟨B + 1, 0, none⟩ u) := keep_setCell w (p := ⟨B + 1, 0, none⟩) (by show B + 1 ≠ B; omega) (by show B + 1 < B + 6; omega) u
theorem X1.keep {B : Nat} {va st1 t0 : Int} {ka : Lit} {w w' : World} (h : X1 B va st1 t0 ka w) (hk : Keep (B + 6) B w w') : X1 B va st1 t0 ka w' := by
  unfold X1 at *
  split
  · rw [if_pos (by assumption)] at h; exact h.keep hk
  · rw [if_neg (by assumption)] at h; exact h.keep hk
theorem X2.keep {B : Nat} {va vb st1 st2 t0 t1 : Int} {ka kb : Lit} {w w' : World} (h : X2 B va vb st1 st2 t0 t1 ka kb w) (hk : Keep (B + 6) B w w') : X2 B va vb st1 st2 t0 t1 ka kb w' := by
  unfold X2 at *
  split
  · rename_i h2
    rw [if_pos h2] at h
    split
    · rename_i h1; rw [if_pos h1] at h; exact h.keep hk
    · rename_i h1; rw [if_neg h1] at h; exact h.keep hk
  · rename_i h2
    rw [if_neg h2] at h; exact h.keep hk

section
variable {B : Nat} {w0 w : World} {va vb ca cb st1 st2 st3 t0 t1 t2 : Int} {ka kb : Lit}
theorem step1 (hF : Fix B w0 va vb t0 ca cb w) (hX : E0 0 (B + 6) B (ck 12 (B + 1)) (.map none) w) (ha : (Lit.int .u8 va).wf = true) (hka : keyOf Ybad.prog 43 (.agg #[.int .u8 va, .int .u8 0]) = some ka) (h0 : 0 ≤ st1) (h1 : st1 ≤ 255) (ht0 : 0 ≤ t0) (ht1 : t0 ≤ 9000000000000000000) :
    Calls Ybad.prog 9 #[.pointer (some ⟨B, 0, none⟩), .pointer (some ⟨B + 1 + 1 + 1 + 1, 0, none⟩), .int .u8 st1] w fun e w' => e = .returned (.tuple #[]) ∧ Fix B w0 va vb t0 st1 cb w' ∧ X1 B va st1 t0 ka w' := by
  refine (enter_at0 0 B (B + 6) _ va 0 ca 0 st1 t0 (t0 + 30000000000) none 12 (.inl rfl) (by omega) ka hka w h0 h1 hF.hz hF.glob hF.now hF.la (by omega) (by omega) (hF.due (by omega) st1 ht0 ht1) (fun w1 hs => stop0 0 _ _ _ _ va 0 ha (by decide) w1 (hX.keep (hs.keep _ _)))).mono ?_
  rintro e w' ⟨rfl, hE, hl, hc⟩
  exact ⟨rfl, hF.enterA hl hc, hE⟩

theorem step2 (hF : Fix B w0 va vb t1 ca cb w) (hX : X1 B va st1 t0 ka w) (hb : (Lit.int .u8 vb).wf = true) (hkb : keyOf Ybad.prog 43 (.agg #[.int .u8 vb, .int .u8 0]) = some kb) (hne : kb ≠ ka) (h0 : 0 ≤ st2) (h1 : st2 ≤ 255) (ht0 : 0 ≤ t1) (ht1 : t1 ≤ 9000000000000000000) (hle : t0 ≤ t1) :
    Calls Ybad.prog 9 #[.pointer (some ⟨B, 0, none⟩), .pointer (some ⟨B + 1 + 1 + 1 + 1 + 1, 0, none⟩), .int .u8 st2] w fun e w' => e = .returned (.tuple #[]) ∧ Fix B w0 va vb t1 ca st2 w' ∧ X2 B va vb st1 st2 t0 t1 ka kb w' := by
  unfold X1 at hX
  by_cases hs1 : supHas st1 = true
  · rw [if_pos hs1] at hX
    refine (enter_at1 1 B (B + 6) _ vb 0 cb 0 st2 t1 (t1 + 30000000000) none 12 (.inl rfl) (by omega) kb ka hkb hne (supName st1) va 0 (t0 + 30000000000) (by omega) w h0 h1 hF.hz hF.glob hF.now hF.lb (by omega) (by omega) (hF.due (by omega) st2 ht0 ht1) (fun w1 hs => stop1o 1 _ _ _ _ _ vb 0 va 0 _ ka kb hkb hne w1 (hX.keep (hs.keep _ _)))).mono ?_
    rintro e w' ⟨rfl, hE, hl, hc⟩
    refine ⟨rfl, hF.enterB hl hc, ?_⟩
    unfold X2 X1
    simp only [if_pos hs1]
    exact hE
  · rw [if_neg hs1] at hX
    refine (enter_at0 0 B (B + 6) _ vb 0 cb 0 st2 t1 (t1 + 30000000000) none 12 (.inl rfl) (by omega) kb hkb w h0 h1 hF.hz hF.glob hF.now hF.lb (by omega) (by omega) (hF.due (by omega) st2 ht0 ht1) (fun w1 hs => stop0 0 _ _ _ _ vb 0 hb (by decide) w1 (hX.keep (hs.keep _ _)))).mono ?_
    rintro e w' ⟨rfl, hE, hl, hc⟩
    refine ⟨rfl, hF.enterB hl hc, ?_⟩
    unfold X2 X1
    simp only [if_neg hs1]
    exact hE

theorem step3 (hF : Fix B w0 va vb t2 ca cb w) (hX : X2 B va vb st1 st2 t0 t1 ka kb w) (ha : (Lit.int .u8 va).wf = true) (hka : keyOf Ybad.prog 43 (.agg #[.int .u8 va, .int .u8 0]) = some ka) (hne : kb ≠ ka) (h0 : 0 ≤ st3) (h1 : st3 ≤ 255) (ht0 : 0 ≤ t2) (ht1 : t2 ≤ 9000000000000000000) (hle : t1 ≤ t2) :
    Calls Ybad.prog 9 #[.pointer (some ⟨B, 0, none⟩), .pointer (some ⟨B + 1 + 1 + 1 + 1, 0, none⟩), .int .u8 st3] w fun e w' => e = .returned (.tuple #[]) ∧ Fix B w0 va vb t2 st3 cb w' ∧ X3 B va vb st2 st3 t1 t2 w' := by
  unfold X2 at hX
  by_cases hs2 : supHas st2 = true
  · rw [if_pos hs2] at hX
    by_cases hs1 : supHas st1 = true
    · rw [if_pos hs1] at hX
      refine (enter_at1 2 B (B + 6) _ va 0 ca 0 st3 t2 (t2 + 30000000000) none 12 (.inl rfl) (by omega) ka kb hka (Ne.symm hne) (supName st2) vb 0 (t1 + 30000000000) (by omega) w h0 h1 hF.hz hF.glob hF.now hF.la (by omega) (by omega) (hF.due (by omega) st3 ht0 ht1) (fun w1 hs => stop2 2 _ _ _ _ _ _ va 0 _ vb 0 _ ka kb hka w1 (hX.keep (hs.keep _ _)))).mono ?_
      rintro e w' ⟨rfl, hE, hl, hc⟩
      refine ⟨rfl, hF.enterA hl hc, ?_⟩
      unfold X3
      rw [if_pos hs2]
      by_cases hs3 : supHas st3 = true
      · rw [if_pos hs3] at hE; exact hE.head
      · rw [if_neg hs3] at hE; exact hE.head
    · rw [if_neg hs1] at hX
      refine (enter_at1 1 B (B + 6) _ va 0 ca 0 st3 t2 (t2 + 30000000000) none 12 (.inl rfl) (by omega) ka kb hka (Ne.symm hne) (supName st2) vb 0 (t1 + 30000000000) (by omega) w h0 h1 hF.hz hF.glob hF.now hF.la (by omega) (by omega) (hF.due (by omega) st3 ht0 ht1) (fun w1 hs => stop1o 1 _ _ _ _ _ va 0 vb 0 _ kb ka hka (Ne.symm hne) w1 (hX.keep (hs.keep _ _)))).mono ?_
      rintro e w' ⟨rfl, hE, hl, hc⟩
      refine ⟨rfl, hF.enterA hl hc, ?_⟩
      unfold X3
      rw [if_pos hs2]
      by_cases hs3 : supHas st3 = true
      · rw [if_pos hs3] at hE; exact hE.head
      · rw [if_neg hs3] at hE; exact hE.head
  · rw [if_neg hs2] at hX
    unfold X1 at hX
    by_cases hs1 : supHas st1 = true
    · rw [if_pos hs1] at hX
      refine (enter_at0 1 B (B + 6) _ va 0 ca 0 st3 t2 (t2 + 30000000000) none 12 (.inl rfl) (by omega) ka hka w h0 h1 hF.hz hF.glob hF.now hF.la (by omega) (by omega) (hF.due (by omega) st3 ht0 ht1) (fun w1 hs => stop1 1 _ _ _ _ _ va 0 _ ka hka w1 (hX.keep (hs.keep _ _)))).mono ?_
      rintro e w' ⟨rfl, hE, hl, hc⟩
      refine ⟨rfl, hF.enterA hl hc, ?_⟩
      unfold X3
      rw [if_neg hs2]
      by_cases hs3 : supHas st3 = true
      · rw [if_pos hs3] at hE; rw [if_pos hs3]; exact hE.head
      · rw [if_neg hs3] at hE; rw [if_neg hs3]; exact hE.empty
    · rw [if_neg hs1] at hX
      refine (enter_at0 0 B (B + 6) _ va 0 ca 0 st3 t2 (t2 + 30000000000) none 12 (.inl rfl) (by omega) ka hka w h0 h1 hF.hz hF.glob hF.now hF.la (by omega) (by omega) (hF.due (by omega) st3 ht0 ht1) (fun w1 hs => stop0 0 _ _ _ _ va 0 ha (by decide) w1 (hX.keep (hs.keep _ _)))).mono ?_
      rintro e w' ⟨rfl, hE, hl, hc⟩
      refine ⟨rfl, hF.enterA hl hc, ?_⟩
      unfold X3
      rw [if_neg hs2]
      by_cases hs3 : supHas st3 = true
      · rw [if_pos hs3] at hE; rw [if_pos hs3]; exact hE.head
      · rw [if_neg hs3] at hE; rw [if_neg hs3]; exact hE.empty
end

/-- The law's world ahead of the first 'enter'. -/
def V0 (w : World) (d0 va vb : Int) : World :=
  ((((((w.alloc (.cells #[ck 12 (w.heap.size + 1), .slice none 0 0, .slice none 0 0, .slice none 0 0, .map none, .map none, .slice none 0 0, .int .u64 0, .int .u8 0] 36)).alloc (.cells #[.int .i64 d0] 37)).alloc (.cells #[.int .u8 va, .int .u8 0] 43)).alloc (.cells #[.int .u8 vb, .int .u8 0] 43)).alloc
    (.cells #[.int .u8 va, .int .u8 0, .int .u8 0, .int .u8 0] 49)).alloc (.cells #[.int .u8 vb, .int .u8 0, .int .u8 0, .int .u8 0] 49))
theorem heap_new' {W : World} {o : Obj} {j : Nat} (h : j = W.heap.size) : (W.alloc o).heap[j]? = some o := by rw [h]; exact heap_alloc_new W o
theorem V0_facts (w : World) (d0 va vb : Int) (hG : GlobOK w.heap.size w) : Fix w.heap.size w va vb d0 0 0 (V0 w d0 va vb) ∧ E0 0 (w.heap.size + 6) w.heap.size (ck 12 (w.heap.size + 1)) (.map none) (V0 w d0 va vb) := by
  have hc : Chg (fun _ => False) w (V0 w d0 va vb) := ((((((Chg.refl _ w).alloc _).alloc _).alloc _).alloc _).alloc _).alloc _
  have hs : (V0 w d0 va vb).heap.size = w.heap.size + 6 := by simp [V0]
  refine ⟨⟨hG.below (hc.below (Nat.le_refl _) (fun _ x => x.elim)), rfl, by omega, hc, ?_, ?_, ?_, ?_, ?_⟩, by omega, 0, by omega, by omega, .inl ?_⟩
  all_goals (unfold V0; first | unfold Leg | unfold Stn | skip)
  all_goals (repeat (first | exact heap_new' (by simp) | rw [Below.heap_alloc _ _ _ (by simp <;> omega)]))
end Go.Proofs.YbulkbyskDoor
