import Derived.Test.YbulkbyskDoorTwo
namespace Go.Proofs.YbulkbyskDoor
open Go.RowKit Go.Maps
attribute [local go_sem ↓] Go.wp_at_zero Go.wp_at_succ

theorem key40 (s : ByteArray) (h : s.size ≤ maxLen) : keyOf Ybad.prog 40 (.string s) = some (.string s.data.toList) := WideMaps.keyOf_string_mk Ybad.underlying40 h
theorem map40_block {w w' : World} {M n : Nat} {D : DataW Value} (h : w.ownsMap Ybad.prog 40 R M n D) (hb : w'.heap[M]? = w.heap[M]?) : w'.ownsMap Ybad.prog 40 R M n D := by
  unfold World.ownsMap at *
  rw [hb]
  exact h

/-- The durations with T310 set to d. -/
def DurD (d : Int) : DataW Value := (DataW.map [] : DataW Value).put (.string t310.data.toList) (.held (.int .i64 d))

/-- The look-up in the durations that were set. -/
theorem dur_look (M n : Nat) (d : Int) (w : World) (h : w.ownsMap Ybad.prog 40 R M n (DurD d)) (s : ByteArray) (hs : s.size ≤ maxLen) :
    (Instr.lookup 28 (.map (some M)) (.string s) true).run Ybad.prog w = .ok (.tuple #[.int .i64 (if s = t310 then d else 0), .bool (decide (s = t310))]) w := by
  obtain ⟨v, ps, h1, h2⟩ := h.look_ok law40 Ybad.underlying28 (zero37 w) (zd := .held (.int .i64 0)) (zp := []) rfl (key40 s hs)
  by_cases e : s = t310
  · subst e
    have ha : (DurD d).atKey (.string t310.data.toList) (.held (.int .i64 0)) = .held (.int .i64 d) := atKey_put_same isMap_empty (law40.key (key40 t310 (by decide))) _ _
    have hh : Maps.has (DurD d) (.string t310.data.toList) = true := has_put_same isMap_empty (law40.key (key40 t310 (by decide))) _
    rw [ha] at h2
    simp only [R, Option.some.injEq, Prod.mk.injEq, DataW.held.injEq] at h2
    rw [h1, h2.1, hh]
    simp
  · have hne : (Lit.string s.data.toList) ≠ .string t310.data.toList := fun h => e (by
      have h3 := law40.inj (key40 s hs) ((key40 t310 (by decide)).trans (by rw [h]))
      simpa using h3)
    have ha : (DurD d).atKey (.string s.data.toList) (.held (.int .i64 0)) = .held (.int .i64 0) := (atKey_put_other hne _ _).trans rfl
    have hh : Maps.has (DurD d) (.string s.data.toList) = false := (has_put_other hne _).trans rfl
    rw [ha] at h2
    simp only [R, Option.some.injEq, Prod.mk.injEq, DataW.held.injEq] at h2
    rw [h1, h2.1, hh]
    simp [e]

set_option maxHeartbeats 1000000 in
/-- 'SetTimer' of a station whose durations were never set. -/
theorem set_timer (S : Nat) (clk mv q : Value) (st d : Int) (w : World) (hS : Stn w S clk (.map none) mv q st) :
    Calls Ybad.prog 7 #[.pointer (some ⟨S, 0, none⟩), .string t310, .int .i64 d] w fun e w' => e = .returned (.tuple #[]) ∧ Stn w' S clk (.map (some w.heap.size)) mv q st ∧ w'.ownsMap Ybad.prog 40 R w.heap.size 1 (DurD d) ∧ Chg (fun j => j = S) w w' := by
  have hSl := hS.lt
  have hnil : ∀ (r : Option Nat) (W : World), (binOp .eql 28 (.map r) (.map none)).run Ybad.prog W = .ok (.bool r.isNone) W := fun r W => run_eql_map_nil W 28 40 37 r Ybad.underlying28
  have hmm := @run_makeMap Ybad.prog
  have c4 : w.cell? ⟨S, 4, none⟩ = some (.map none) := by simp [World.cell?, show w.heap[S]? = _ from hS]
  have f4 : w.frozen? ⟨S, 4, none⟩ = false := by simp [World.frozen?, show w.heap[S]? = _ from hS]
  have ez : (w.setCell ⟨S, 4, none⟩ (.map (some w.heap.size))).heap.size = w.heap.size := by simp [World.setCell]
  have hmade : ((w.setCell ⟨S, 4, none⟩ (.map (some w.heap.size))).alloc (.map #[] 0)).ownsMap Ybad.prog 40 R w.heap.size 0 (.map []) := by
    have h := World.ownsMap_made (w.setCell ⟨S, 4, none⟩ (.map (some w.heap.size))) Ybad.prog 40 R
    rw [ez] at h
    exact h
  obtain ⟨w2, hup, hown, hgr⟩ := hmade.update law40 Ybad.underlying28 (by decide) (key40 t310 (by decide)) (val := .int .i64 d) (d := .held (.int .i64 d)) (ps := []) rfl
  have hne : w.heap.size ≠ S := by omega
  have hS2 : Stn w2 S clk (.map (some w.heap.size)) mv q st := (hS.setD (.map (some w.heap.size))).block ((hgr.block S (by simp [World.setCell]; omega) (by simpa using Ne.symm hne)).trans (Below.heap_alloc _ _ _ (by rw [ez]; exact hSl)))
  have hc2 : Chg (fun j => j = S) w w2 := ((((Chg.refl (fun j => j = S) w).setCell (p := ⟨S, 4, none⟩) (fun _ => rfl) _).alloc _).grown hgr (fun k hk hl => by simp at hk; omega))
  have HS2 := hide hS2
  have HO := hide hown
  have HC := hide hc2
  clear hS hmade hown hgr hS2 hc2
  go_enter Ybad.func7, Ybad.ntmps7
  go_wp2
  go_end0
  exact ⟨rfl, HS2.out, HO.out, HC.out⟩

/-- The duration that supervises st, where T310 was set to d. -/
def wdOf (d st : Int) : Int := if st = 3 then d else 30000000000
theorem wd_name {st : Int} (h : supHas st = true) : (st = 3 ∧ supName st = t310) ∨ (st ≠ 3 ∧ supName st ≠ t310) := by
  have hc : st = 1 ∨ st = 3 ∨ st = 8 := by simpa [supHas] using h
  rcases hc with rfl | rfl | rfl
  · exact .inr ⟨by decide, by decide⟩
  · exact .inl ⟨rfl, rfl⟩
  · exact .inr ⟨by decide, by decide⟩

set_option maxHeartbeats 400000 in
/-- 'Due' where T310 was set. -/
theorem due_set (B M n : Nat) (st now d : Int) (h : supHas st = true) (h0 : 0 ≤ now) (h1 : now ≤ 4000000000000000000) (hd0 : 0 ≤ d) (hd1 : d ≤ 4000000000000000000) (w : World) (hG : GlobOK B w) (hM : w.ownsMap Ybad.prog 40 R M n (DurD d)) :
    Calls Ybad.prog 18 #[.map (some M), .string (supName st), .int .i64 now] w fun e w' => e = .returned (.int .i64 (now + wdOf d st)) ∧ w = w' := by
  obtain ⟨_, b1, b3, c0, c1, hl⟩ := hG
  obtain ⟨_, l3⟩ := hl w (fun _ _ => rfl)
  have l3' := l3 st h
  have l0 := dur_look M n d w hM (supName st) (supName_size st)
  clear hl l3
  rcases wd_name h with ⟨e1, e2⟩ | ⟨e1, e2⟩
  · rw [if_pos e2, decide_eq_true e2] at l0
    have hw : wdOf d st = d := by simp [wdOf, e1]
    rw [hw]
    clear hM e2 e1 hw
    generalize supName st = nm at *
    go_enter Ybad.func18, Ybad.ntmps18
    go_wp2
    go_ret
    exact ⟨rfl, rfl⟩
  · rw [if_neg e2, decide_eq_false e2] at l0
    have hw : wdOf d st = 30000000000 := by simp [wdOf, e1]
    rw [hw]
    clear hM e2 e1 hw
    generalize supName st = nm at *
    go_enter Ybad.func18, Ybad.ntmps18
    go_wp2
    go_ret
    exact ⟨rfl, rfl⟩

/-- The station of 'LawS3754BOne' ahead of its leg: durations dr, the duration of st wd st. -/
structure OneV (B : Nat) (w0 : World) (dr : Option Nat) (now : Int) (wd : Int → Int) (v : World) : Prop where
  glob : GlobOK B v
  hB : B = w0.heap.size
  hz : B + 2 ≤ v.heap.size
  chg : Chg (fun _ => False) w0 v
  stn : Stn v B (ck 6 (B + 1)) (.map dr) (.map none) (.slice none 0 0) 0
  c : v.heap[B + 1]? = some (.cells #[.int .i64 now] 37 (0, 0))
  hM : ∀ M, dr = some M → B + 1 < M ∧ M < v.heap.size
  due : ∀ st, supHas st = true → ∀ w1, (∀ M, dr = some M → w1.heap[M]? = v.heap[M]?) → GlobOK B w1 → Calls Ybad.prog 18 #[.map dr, .string (supName st), .int .i64 now] w1 fun e w' => e = .returned (.int .i64 (now + wd st)) ∧ w1 = w'

/-- What 'enter' leaves. -/
structure OneW (B z : Nat) (w0 : World) (va side hold now st : Int) (wd : Int → Int) (w : World) : Prop where
  chg : Chg (fun _ => False) w0 w
  hz : z + 2 ≤ w.heap.size
  c : w.heap[B + 1]? = some (.cells #[.int .i64 now] 37 (0, 0))
  ti : w.heap[z]? = some (.cells #[.int .u8 va, .int .u8 side] 43 (0, 0))
  leg : Leg w (z + 1) va side st hold
  stn : ∃ clk du mv q n, Stn w B clk du mv q n
  run : if supHas st = true then Head B (supName st) va side (now + wd st) w else Empty B w

theorem E0.stn {n Nb S : Nat} {clk du : Value} {w : World} (h : E0 n Nb S clk du w) : ∃ clk du mv q n, Stn w S clk du mv q n := by
  obtain ⟨hS, st, h0, h1, h | ⟨M, k, D, g, cap, hC, hk9, hno⟩⟩ := h
  · exact ⟨_, _, _, _, _, h⟩
  · exact ⟨_, _, _, _, _, hC.stn⟩
theorem E1.stn {n Nb S : Nat} {clk du : Value} {nm : ByteArray} {a b due : Int} {kl : Lit} {w : World} (h : E1 n Nb S clk du nm a b due kl w) : ∃ clk du mv q n, Stn w S clk du mv q n := by
  obtain ⟨st, M, k, D, g, cap, t, ord, h0, h1, hk9, ho, hC, r⟩ := h
  exact ⟨_, _, _, _, _, hC.stn⟩

theorem step_one {B : Nat} {w0 v : World} {dr : Option Nat} {now : Int} {wd : Int → Int} (hV : OneV B w0 dr now wd v) (va side hold st : Int) (ha : (Lit.int .u8 va).wf = true) (hs : (Lit.int .u8 side).wf = true) (h0 : 0 ≤ st) (h1 : st ≤ 255) :
    Calls Ybad.prog 9 #[.pointer (some ⟨B, 0, none⟩), .pointer (some ⟨v.heap.size + 1, 0, none⟩), .int .u8 st] ((v.alloc (.cells #[.int .u8 va, .int .u8 side] 43)).alloc (.cells #[.int .u8 va, .int .u8 side, .int .u8 0, .int .u8 hold] 49)) fun e w' =>
      e = .returned (.tuple #[]) ∧ OneW B v.heap.size w0 va side hold now st wd w' := by
  obtain ⟨kl, hkl⟩ := key43 va side ha hs
  have hz := hV.hz
  have hB := hV.hB
  have hcv : Chg (fun _ => False) v ((v.alloc (.cells #[.int .u8 va, .int .u8 side] 43)).alloc (.cells #[.int .u8 va, .int .u8 side, .int .u8 0, .int .u8 hold] 49)) := ((Chg.refl _ v).alloc _).alloc _
  have hti : ((v.alloc (.cells #[.int .u8 va, .int .u8 side] 43)).alloc (.cells #[.int .u8 va, .int .u8 side, .int .u8 0, .int .u8 hold] 49)).heap[v.heap.size]? = some (.cells #[.int .u8 va, .int .u8 side] 43 (0, 0)) :=
    (Below.heap_alloc _ _ _ (by simp)).trans (heap_alloc_new v _)
  have hleg : Leg ((v.alloc (.cells #[.int .u8 va, .int .u8 side] 43)).alloc (.cells #[.int .u8 va, .int .u8 side, .int .u8 0, .int .u8 hold] 49)) (v.heap.size + 1) va side 0 hold := heap_new' (by simp)
  have hsz : ((v.alloc (.cells #[.int .u8 va, .int .u8 side] 43)).alloc (.cells #[.int .u8 va, .int .u8 side, .int .u8 0, .int .u8 hold] 49)).heap.size = v.heap.size + 2 := by simp
  generalize ((v.alloc (.cells #[.int .u8 va, .int .u8 side] 43)).alloc (.cells #[.int .u8 va, .int .u8 side, .int .u8 0, .int .u8 hold] 49)) = W at *
  have hG : GlobOK B W := hV.glob.below (hcv.below (by omega) (fun _ x => x.elim))
  have hcW : W.heap[B + 1]? = some (.cells #[.int .i64 now] 37 (0, 0)) := (hcv.block _ (by omega) (fun x => x)).trans hV.c
  have hE : E0 0 (v.heap.size + 2) B (ck 6 (B + 1)) (.map dr) W := ⟨by omega, 0, by omega, by omega, .inl (hV.stn.block (hcv.block B (by omega) (fun x => x)))⟩
  refine (enter_at0 0 B (v.heap.size + 2) (v.heap.size + 1) va side 0 hold st now (now + wd st) dr 6 (.inr rfl) (by omega) kl hkl W h0 h1 (by omega) hG (by simp [World.cell?, hcW]) hleg (by omega) (by omega) (fun w1 hc hsup => ?_) (fun w1 hsm => stop0 0 _ _ _ _ va side ha hs w1 (hE.keep (hsm.keep _ _)))).mono ?_
  · refine hV.due st hsup w1 (fun M hM => ?_) (hG.below (hc.below (by omega) (fun k e => by rcases e with e | e | e <;> omega)))
    obtain ⟨m1, m2⟩ := hV.hM M hM
    exact (hc.block M (by omega) (fun e => by rcases e with e | e | e <;> omega)).trans (hcv.block M m2 (fun x => x))
  · rintro e w' ⟨rfl, hrun, hl, hc⟩
    refine ⟨rfl, ⟨(hV.chg.step hcv (fun _ _ x => x)).step hc (fun k hk e => by rcases e with e | e | e <;> omega), by have := hc.size; omega, (hc.block _ (lt_of_block hcW) (fun e => by rcases e with e | e | e <;> omega)).trans hcW, (hc.block _ (lt_of_block hti) (fun e => by rcases e with e | e | e <;> omega)).trans hti, hl, ?_, ?_⟩⟩
    · by_cases hsup : supHas st = true
      · rw [if_pos hsup] at hrun; exact hrun.stn
      · rw [if_neg hsup] at hrun; exact hrun.stn
    · by_cases hsup : supHas st = true
      · rw [if_pos hsup] at hrun; rw [if_pos hsup]; exact hrun.head
      · rw [if_neg hsup] at hrun; rw [if_neg hsup]; exact hrun.empty
end Go.Proofs.YbulkbyskDoor
