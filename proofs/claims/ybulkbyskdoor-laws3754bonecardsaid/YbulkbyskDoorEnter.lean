import Derived.Test.YbulkbyskDoorFirst
namespace Go.Proofs.YbulkbyskDoor
open Go.RowKit Go.Maps
attribute [local go_sem ↓] Go.wp_at_zero Go.wp_at_succ

/-- "T303", "T310", "T313". -/
def t303 : ByteArray := ⟨#[84, 51, 48, 51]⟩
def t310 : ByteArray := ⟨#[84, 51, 49, 48]⟩
def t313 : ByteArray := ⟨#[84, 51, 49, 51]⟩
/-- Which states of the mobile station's end are supervised, and by which timer. -/
def supHas (st : Int) : Bool := decide (st = 1 ∨ st = 3 ∨ st = 8)
def supName (st : Int) : ByteArray := if st = 1 then t303 else if st = 3 then t310 else if st = 8 then t313 else ⟨#[]⟩

/-- What the look-ups in the two package-level maps answer, in every world that agrees with w0 below B. -/
def GlobOK (B : Nat) (w0 : World) : Prop :=
  2 ≤ B ∧ ∃ b1 b3 : Nat, w0.cell? ⟨0, 0, none⟩ = some (.map (some b1)) ∧ w0.cell? ⟨1, 0, none⟩ = some (.map (some b3)) ∧ ∀ W : World, (∀ k, k < B → W.heap[k]? = w0.heap[k]?) →
    (∃ b2 : Nat, (Instr.lookup 76 (.map (some b1)) (.int .u8 0) false).run Ybad.prog W = .ok (.map (some b2)) W ∧
    (∀ st : Int, 0 ≤ st → st ≤ 255 → (Instr.lookup 75 (.map (some b2)) (.int .u8 st) true).run Ybad.prog W = .ok (.tuple #[.string (supName st), .bool (supHas st)]) W)) ∧
    (∀ st : Int, supHas st = true → (Instr.lookup 28 (.map (some b3)) (.string (supName st)) true).run Ybad.prog W = .ok (.tuple #[.int .i64 30000000000, .bool true]) W)

theorem GlobOK.below {B : Nat} {w0 w : World} (h : GlobOK B w0) (hb : Below B w0 w) : GlobOK B w := by
  obtain ⟨h2, b1, b3, c0, c1, hl⟩ := h
  refine ⟨h2, b1, b3, (hb.cell (p := ⟨0, 0, none⟩) (by show 0 < B; omega)).trans c0, (hb.cell (p := ⟨1, 0, none⟩) (by show 1 < B; omega)).trans c1, fun W hW => hl W (fun k hk => (hW k hk).trans (hb.block k hk))⟩

/-- 'Supervisor' of the mobile station's end. -/
theorem sup_any (B : Nat) (st : Int) (h0 : 0 ≤ st) (h1 : st ≤ 255) (w : World) (hG : GlobOK B w) :
    Calls Ybad.prog 14 #[.int .u8 0, .int .u8 st] w fun e w' => e = .returned (.tuple #[.string (supName st), .bool (supHas st)]) ∧ w = w' := by
  obtain ⟨_, b1, b3, c0, c1, hl⟩ := hG
  obtain ⟨⟨b2, l1, l2⟩, _⟩ := hl w (fun _ _ => rfl)
  have l2' := l2 st h0 h1
  clear hl l2
  generalize supName st = nm at *
  generalize supHas st = bb at *
  go_enter Ybad.func14, Ybad.ntmps14
  go_wp2
  go_ret2
  exact ⟨rfl, rfl⟩

theorem law40 : Keyed Ybad.prog 40 := string_keyed Ybad.underlying40
theorem zero37 (w : World) : (zeroValue 37).run Ybad.prog w = .ok (.int .i64 0) w := by kernel_rfl
theorem supName_size (st : Int) : (supName st).size ≤ maxLen := by
  unfold supName
  split
  · decide
  split
  · decide
  split
  · decide
  · decide

/-- 'Due' where no duration was set. -/
theorem due_nil (B : Nat) (st now : Int) (h : supHas st = true) (h0 : 0 ≤ now) (h1 : now ≤ 9000000000000000000) (w : World) (hG : GlobOK B w) :
    Calls Ybad.prog 18 #[.map none, .string (supName st), .int .i64 now] w fun e w' => e = .returned (.int .i64 (now + 30000000000)) ∧ w = w' := by
  obtain ⟨_, b1, b3, c0, c1, hl⟩ := hG
  obtain ⟨_, l3⟩ := hl w (fun _ _ => rfl)
  have l3' := l3 st h
  have l0 : (Instr.lookup 28 (.map none) (.string (supName st)) true).run Ybad.prog w = .ok (.tuple #[.int .i64 0, .bool false]) w := by
    exact Maps.look_nil true law40 Ybad.underlying28 (zero37 w) (WideMaps.keyOf_string_mk Ybad.underlying40 (supName_size st))
  clear hl l3
  generalize supName st = nm at *
  go_enter Ybad.func18, Ybad.ntmps18
  go_wp2
  go_ret
  exact ⟨rfl, rfl⟩

theorem fn_nil (f : FuncId) (x : Array Value) (w : World) : (binOp .eql 23 (.func (.func f) #[] x) .nilFunc).run Ybad.prog w = .ok (.bool false) w := by kernel_rfl

/-- 'Now' of a clock that reads a variable. -/
theorem now_any (f : FuncId) (c : Nat) (now : Int) (w : World) (hc : w.cell? ⟨c, 0, none⟩ = some (.int .i64 now)) (hf : f = 12 ∨ f = 6) :
    Calls Ybad.prog 19 #[.func (.func f) #[] #[.pointer (some ⟨c, 0, none⟩)]] w fun e w' => e = .returned (.int .i64 now) ∧ w = w' := by
  have hn := fn_nil
  rcases hf with rfl | rfl
  · go_enter Ybad.func19, Ybad.ntmps19
    go_wp2
    go_ret
    exact ⟨rfl, rfl⟩
  · go_enter Ybad.func19, Ybad.ntmps19
    go_wp2
    go_ret
    exact ⟨rfl, rfl⟩

set_option maxHeartbeats 1000000 in
/-- '(*Station).start': the time is read, the due time reckoned, the timer started. -/
theorem sstart (S c : Nat) (f : FuncId) (dr : Option Nat) (mv q : Value) (st : Int) (nm : ByteArray) (a b now due : Int) (w : World) (Post : World → Prop) (hf : f = 12 ∨ f = 6) (hS : Stn w S (.func (.func f) #[] #[.pointer (some ⟨c, 0, none⟩)]) (.map dr) mv q st) (hc : w.cell? ⟨c, 0, none⟩ = some (.int .i64 now))
    (h18 : ∀ w1 : World, Same (w.alloc (.cells #[.string nm, .int .u8 a, .int .u8 b, .int .i64 0, .int .u8 0, .bool false] 66)) w1 → Calls Ybad.prog 18 #[.map dr, .string nm, .int .i64 now] w1 fun e w' => e = .returned (.int .i64 due) ∧ w1 = w')
    (h20 : ∀ w1 : World, Same (w.alloc (.cells #[.string nm, .int .u8 a, .int .u8 b, .int .i64 due, .int .u8 0, .bool false] 66)) w1 → Calls Ybad.prog 20 #[.pointer (some ⟨S, 5, none⟩), .agg #[.string nm, .int .u8 a, .int .u8 b, .int .i64 due, .int .u8 0, .bool false]] w1 fun e w' => e = .returned (.tuple #[]) ∧ Post w') :
    Calls Ybad.prog 15 #[.pointer (some ⟨S, 0, none⟩), .agg #[.string nm, .int .u8 a, .int .u8 b, .int .i64 0, .int .u8 0, .bool false]] w fun e w' => e = .returned (.tuple #[]) ∧ Post w' := by
  have hSl := hS.lt
  have hcl := World.block_lt_of_cell? w _ hc
  have c0 : w.cell? ⟨S, 0, none⟩ = some (.func (.func f) #[] #[.pointer (some ⟨c, 0, none⟩)]) := by simp [World.cell?, show w.heap[S]? = _ from hS]
  have c4 : w.cell? ⟨S, 4, none⟩ = some (.map dr) := by simp [World.cell?, show w.heap[S]? = _ from hS]
  have HCX : Hid (∀ o : Obj, (w.alloc o).drew.cell? ⟨c, 0, none⟩ = some (.int .i64 now)) := fun o => (World.cell?_alloc_past (w := w) o c 0 hcl).trans hc
  have H18 := hide h18
  have H20 := hide h20
  clear h18 h20 hS
  go_enter Ybad.func15, Ybad.ntmps15
  go_wp2
  go_region_held3 (fun w' => w'.cell? ⟨S, 4, none⟩ = some (.map dr) ∧ w'.cell? ⟨S, 0, none⟩ = some (.func (.func f) #[] #[.pointer (some ⟨c, 0, none⟩)]) ∧ w'.cell? ⟨w.heap.size, 0, none⟩ = some (.string nm)) (go_keep) (first | (go_at_call 19; refine (now_any f c now _ (HCX.out _) hf).mono ?_; rintro e w1 ⟨rfl, rfl⟩) | (go_at_call 18; refine (H18.out _ (by exact (Same.refl _).drew)).mono ?_; rintro e w1 ⟨rfl, rfl⟩))
  go_wp2
  go_region_with (go_at_call 20; refine (H20.out _ (by exact ((Same.refl _).drew).drew)).mono ?_; rintro e w1 ⟨rfl, hp⟩; have HP := hide hp; clear hp)
  all_goals (go_end0; exact ⟨rfl, HP.out⟩)

/-- A leg in block L. -/
def Leg (w : World) (L : Nat) (a b c h : Int) : Prop := w.heap[L]? = some (.cells #[.int .u8 a, .int .u8 b, .int .u8 c, .int .u8 h] 49 (0, 0))
theorem Leg.lt {w : World} {L : Nat} {a b c h : Int} (hL : Leg w L a b c h) : L < w.heap.size := lt_of_block hL
theorem Leg.block {w w' : World} {L : Nat} {a b c h : Int} (hL : Leg w L a b c h) (hb : w'.heap[L]? = w.heap[L]?) : Leg w' L a b c h := hb.trans hL
theorem Leg.setC {w : World} {L : Nat} {a b c h : Int} (hL : Leg w L a b c h) (c' : Int) : Leg (w.setCell ⟨L, 2, none⟩ (.int .u8 c')) L a b c' h := heap_setCell_same hL

set_option maxHeartbeats 1000000 in
/-- 'enter' into a state that no timer supervises. -/
theorem enter_no (B S L : Nat) (a b c h st : Int) (h0 : 0 ≤ st) (h1 : st ≤ 255) (w : World) (P1 : World → Prop) (hL : Leg w L a b c h) (hsup : supHas st = false)
    (h13 : ∀ w1 : World, Same w w1 → Calls Ybad.prog 13 #[.pointer (some ⟨S, 5, none⟩), .agg #[.int .u8 a, .int .u8 b]] w1 fun e w' => e = .returned (.tuple #[]) ∧ P1 w')
    (hP : ∀ w1, P1 w1 → Leg w1 L a b c h ∧ GlobOK B (w1.setCell ⟨L, 2, none⟩ (.int .u8 st))) :
    Calls Ybad.prog 9 #[.pointer (some ⟨S, 0, none⟩), .pointer (some ⟨L, 0, none⟩), .int .u8 st] w fun e w' => e = .returned (.tuple #[]) ∧ ∃ w1, P1 w1 ∧ w' = w1.setCell ⟨L, 2, none⟩ (.int .u8 st) := by
  have a0 : w.cell? ⟨L, 0, none⟩ = some (.int .u8 a) := by simp [World.cell?, show w.heap[L]? = _ from hL]
  have a1 : w.cell? ⟨L, 1, none⟩ = some (.int .u8 b) := by simp [World.cell?, show w.heap[L]? = _ from hL]
  have H13 := hide h13
  have HP := hide hP
  have HSUP := hide hsup
  clear h13 hP hL hsup
  go_enter Ybad.func9, Ybad.ntmps9
  go_wp2
  go_region_with (go_at_call 13; refine (H13.out _ (by exact (Same.refl _).drew)).mono ?_; rintro e w1 ⟨rfl, hp⟩; have HP1 := hide hp; clear hp)
  have HL1 := hide (HP.out w1 HP1.out).1
  have HG1 := hide (HP.out w1 HP1.out).2
  have a2 : w1.cell? ⟨L, 2, none⟩ = some (.int .u8 c) := by simp [World.cell?, show w1.heap[L]? = _ from HL1.out]
  have f2 : w1.frozen? ⟨L, 2, none⟩ = false := by simp [World.frozen?, show w1.heap[L]? = _ from HL1.out]
  clear a0 a1
  go_wp2_with fail
  refine (sup_any B st h0 h1 _ HG1.out).mono ?_
  rintro e w2 ⟨rfl, rfl⟩
  rw [HSUP.out]
  go_wp2
  go_end0
  exact ⟨rfl, w1, HP1.out, rfl⟩

set_option maxHeartbeats 1000000 in
/-- 'enter' into a state that a timer supervises. -/
theorem enter_yes (B S L : Nat) (a b c h st : Int) (h0 : 0 ≤ st) (h1 : st ≤ 255) (w : World) (P1 Post : World → Prop) (hL : Leg w L a b c h) (hsup : supHas st = true)
    (h13 : ∀ w1 : World, Same w w1 → Calls Ybad.prog 13 #[.pointer (some ⟨S, 5, none⟩), .agg #[.int .u8 a, .int .u8 b]] w1 fun e w' => e = .returned (.tuple #[]) ∧ P1 w')
    (hP : ∀ w1, P1 w1 → Leg w1 L a b c h ∧ GlobOK B (w1.setCell ⟨L, 2, none⟩ (.int .u8 st)))
    (h15 : ∀ w1, P1 w1 → Calls Ybad.prog 15 #[.pointer (some ⟨S, 0, none⟩), .agg #[.string (supName st), .int .u8 a, .int .u8 b, .int .i64 0, .int .u8 0, .bool false]] (w1.setCell ⟨L, 2, none⟩ (.int .u8 st)) fun e w' => e = .returned (.tuple #[]) ∧ Post w') :
    Calls Ybad.prog 9 #[.pointer (some ⟨S, 0, none⟩), .pointer (some ⟨L, 0, none⟩), .int .u8 st] w fun e w' => e = .returned (.tuple #[]) ∧ Post w' := by
  have a0 : w.cell? ⟨L, 0, none⟩ = some (.int .u8 a) := by simp [World.cell?, show w.heap[L]? = _ from hL]
  have a1 : w.cell? ⟨L, 1, none⟩ = some (.int .u8 b) := by simp [World.cell?, show w.heap[L]? = _ from hL]
  have H13 := hide h13
  have H15 := hide h15
  have HP := hide hP
  have HSUP := hide hsup
  clear h13 hP hL hsup h15
  go_enter Ybad.func9, Ybad.ntmps9
  go_wp2
  go_region_with (go_at_call 13; refine (H13.out _ (by exact (Same.refl _).drew)).mono ?_; rintro e w1 ⟨rfl, hp⟩; have HP1 := hide hp; clear hp)
  have HL1 := hide (HP.out w1 HP1.out).1
  have HG1 := hide (HP.out w1 HP1.out).2
  have a2 : w1.cell? ⟨L, 2, none⟩ = some (.int .u8 c) := by simp [World.cell?, show w1.heap[L]? = _ from HL1.out]
  have f2 : w1.frozen? ⟨L, 2, none⟩ = false := by simp [World.frozen?, show w1.heap[L]? = _ from HL1.out]
  have b0 : (w1.setCell ⟨L, 2, none⟩ (.int .u8 st)).cell? ⟨L, 0, none⟩ = some (.int .u8 a) := by simp [World.cell?, show (w1.setCell ⟨L, 2, none⟩ (.int .u8 st)).heap[L]? = _ from HL1.out.setC st]
  have b1 : (w1.setCell ⟨L, 2, none⟩ (.int .u8 st)).cell? ⟨L, 1, none⟩ = some (.int .u8 b) := by simp [World.cell?, show (w1.setCell ⟨L, 2, none⟩ (.int .u8 st)).heap[L]? = _ from HL1.out.setC st]
  clear a0 a1
  go_wp2_with fail
  refine (sup_any B st h0 h1 _ HG1.out).mono ?_
  rintro e w2 ⟨rfl, rfl⟩
  rw [HSUP.out]
  go_wp2_with fail
  refine (H15.out w1 HP1.out).mono ?_
  rintro e w2 ⟨rfl, hp⟩
  have HPOST := hide hp
  clear hp
  go_wp2
  go_end0
  exact ⟨rfl, HPOST.out⟩
end Go.Proofs.YbulkbyskDoor
