import Derived.Test.YbulkbyskDoorStop
namespace Go.Proofs.YbulkbyskDoor
open Go.RowKit Go.Maps
attribute [local go_sem ↓] Go.wp_at_zero Go.wp_at_succ

/-- What 'Start' leaves. -/
def Started (w : World) (S M k Bq n : Nat) (D : DataW Value) (clk du q : Value) (st : Int) (nm : ByteArray) (a b due : Int) (kl : Lit) (xs : List Value) (w' : World) : Prop :=
  ∃ t g cap', Stn w' S clk du (.map (some M)) (.slice (some ⟨g, 0, none⟩) (n + 1) cap') (st + 1) ∧ w'.ownsRow Bq 70 1 (.slice (some ⟨g, 0, none⟩) (n + 1) cap') (n + 1) (xs ++ [.pointer (some ⟨t, 0, none⟩)]) ∧ Tm w' t nm a b due st n ∧
    w'.ownsMap Ybad.prog 43 R M (k + 1) (D.put kl (.held (.pointer (some ⟨t, 0, none⟩)))) ∧ Chg (fun j => j = S ∨ j = M ∨ q.ownBlock = some j) w w' ∧ w.heap.size ≤ t ∧ (q.ownBlock = some g ∨ w.heap.size ≤ g)

/-- The world as 'Start' comes to heap.Push. -/
def W2 (w : World) (S : Nat) (st : Int) (nm : ByteArray) (a b due : Int) : World :=
  ((w.setCell ⟨S, 7, none⟩ (.int .u64 (st + 1))).alloc (.cells #[.string nm, .int .u8 a, .int .u8 b, .int .i64 due, .int .u8 0, .bool false] 66)).alloc (.cells #[.string nm, .int .u8 a, .int .u8 b, .int .i64 due, .int .u8 0, .bool false, .int .u64 st, .int .i64 0, .pointer none] 72)

theorem W2_size (w : World) (S : Nat) (st : Int) (nm : ByteArray) (a b due : Int) : (W2 w S st nm a b due).heap.size = w.heap.size + 2 := by simp [W2, World.setCell]
theorem W2_old (w : World) (S : Nat) (st : Int) (nm : ByteArray) (a b due : Int) (j : Nat) (hj : j < w.heap.size) (hS : j ≠ S) : (W2 w S st nm a b due).heap[j]? = w.heap[j]? := by
  unfold W2
  rw [Below.heap_alloc _ _ _ (by simp [World.setCell]; omega), Below.heap_alloc _ _ _ (by simp [World.setCell]; omega), Below.heap_setCell _ _ _ _ hS]
theorem W2_stn {w : World} {S : Nat} {clk du mv q : Value} {st : Int} (nm : ByteArray) (a b due : Int) (h : Stn w S clk du mv q st) : Stn (W2 w S st nm a b due) S clk du mv q (st + 1) := by
  have hl := h.lt
  refine (h.setSt (st + 1)).block ?_
  unfold W2
  rw [Below.heap_alloc _ _ _ (by simp [World.setCell]; omega), Below.heap_alloc _ _ _ (by simp [World.setCell]; omega)]
theorem W2_tm (w : World) (S : Nat) (st : Int) (nm : ByteArray) (a b due : Int) : Tm (W2 w S st nm a b due) (w.heap.size + 1) nm a b due st 0 := by
  unfold W2 Tm
  have h := heap_alloc_new ((w.setCell ⟨S, 7, none⟩ (.int .u64 (st + 1))).alloc (.cells #[.string nm, .int .u8 a, .int .u8 b, .int .i64 due, .int .u8 0, .bool false] 66)) (.cells #[.string nm, .int .u8 a, .int .u8 b, .int .i64 due, .int .u8 0, .bool false, .int .u64 st, .int .i64 0, .pointer none] 72)
  have e : ((w.setCell ⟨S, 7, none⟩ (.int .u64 (st + 1))).alloc (.cells #[.string nm, .int .u8 a, .int .u8 b, .int .i64 due, .int .u8 0, .bool false] 66)).heap.size = w.heap.size + 1 := by simp [World.setCell]
  rw [e] at h
  exact h
theorem W2_box (w : World) (S : Nat) (st : Int) (nm : ByteArray) (a b due : Int) : (W2 w S st nm a b due).heap[w.heap.size]? = some (.cells #[.string nm, .int .u8 a, .int .u8 b, .int .i64 due, .int .u8 0, .bool false] 66 (0, 0)) := by
  unfold W2
  rw [Below.heap_alloc _ _ _ (by simp [World.setCell])]
  have h := heap_alloc_new (w.setCell ⟨S, 7, none⟩ (.int .u64 (st + 1))) (.cells #[.string nm, .int .u8 a, .int .u8 b, .int .i64 due, .int .u8 0, .bool false] 66)
  have e : (w.setCell ⟨S, 7, none⟩ (.int .u64 (st + 1))).heap.size = w.heap.size := by simp [World.setCell]
  rw [e] at h
  exact h
theorem W2_chg (w : World) (S : Nat) (st : Int) (nm : ByteArray) (a b due : Int) : Chg (fun j => j = S) w (W2 w S st nm a b due) :=
  (((Chg.refl (fun j => j = S) w).setCell (p := ⟨S, 7, none⟩) (fun _ => rfl) (.int .u64 (st + 1))).alloc _).alloc _
theorem W2_row {w : World} {S : Nat} {st : Int} (nm : ByteArray) (a b due : Int) {B e size n : Nat} {v : Value} {xs : List Value} (h : w.ownsRow B e size v n xs) (hS : v.ownBlock ≠ some S) : (W2 w S st nm a b due).ownsRow B e size v n xs :=
  ((ownsRow_setCell_other (a := ⟨S, 7, none⟩) h hS _).alloc _).alloc _

/-- Behind the push: what the last statement of 'Start' reads. -/
theorem start_mid {w w3 : World} {S M k Bq n : Nat} {D : DataW Value} {clk du q : Value} {st : Int} {nm : ByteArray} {a b due : Int} {kl : Lit} {xs : List Value} (hkl : keyOf Ybad.prog 43 (.agg #[.int .u8 a, .int .u8 b]) = some kl) (hk : k ≤ 1000)
    (hS : Stn w S clk du (.map (some M)) q st) (hrow : w.ownsRow Bq 70 1 q n xs) (hown : w.ownsMap Ybad.prog 43 R M k D)
    (hp : Pushed (W2 w S st nm a b due).drew S (w.heap.size + 1) Bq n clk du (.map (some M)) q (st + 1) nm a b due st xs w3) :
    w3.cell? ⟨S, 5, none⟩ = some (.map (some M)) ∧ w3.cell? ⟨w.heap.size, 1, none⟩ = some (.int .u8 a) ∧ w3.cell? ⟨w.heap.size, 2, none⟩ = some (.int .u8 b) ∧
    ∃ w4, (Instr.mapUpdate 29 (.map (some M)) (.agg #[.int .u8 a, .int .u8 b]) (.pointer (some ⟨w.heap.size + 1, 0, none⟩))).run Ybad.prog w3.drew = .ok () w4 ∧
      w4.cell? ⟨S, 5, none⟩ = some (.map (some M)) ∧ w4.cell? ⟨w.heap.size, 1, none⟩ = some (.int .u8 a) ∧ w4.cell? ⟨w.heap.size, 2, none⟩ = some (.int .u8 b) ∧ Started w S M k Bq n D clk du q st nm a b due kl xs w4 := by
  obtain ⟨g, cap', p1, p2, p3, p4, p5⟩ := hp
  have hMS := map_ne hown hS
  have hMl := hown.lt
  have hSl := hS.lt
  have hsz := W2_size w S st nm a b due
  have hqb : ∀ j, q.ownBlock = some j → j < w.heap.size ∧ j ≠ S ∧ j ≠ M := fun j hj => ⟨(hrow.lt j hj).2, fun e => row_ne hrow hS (by decide) (e ▸ hj), fun e => map_row_ne hown hrow (e ▸ hj)⟩
  have hbx : w3.heap[w.heap.size]? = some (.cells #[.string nm, .int .u8 a, .int .u8 b, .int .i64 due, .int .u8 0, .bool false] 66 (0, 0)) :=
    (p4.block w.heap.size (by show w.heap.size < (W2 w S st nm a b due).heap.size; omega) (fun h => h.elim (fun h => by omega) (fun h => h.elim (fun h => by omega) (fun h => by have := hqb _ h; omega)))).trans (W2_box w S st nm a b due)
  have hown3 : w3.ownsMap Ybad.prog 43 R M k D := map_block hown ((p4.block M (by show M < (W2 w S st nm a b due).heap.size; omega) (fun h => h.elim hMS (fun h => h.elim (fun h => by omega) (fun h => (hqb _ h).2.2 rfl)))).trans (W2_old w S st nm a b due M hMl hMS))
  have c5 : w3.cell? ⟨S, 5, none⟩ = some (.map (some M)) := by simp [World.cell?, show w3.heap[S]? = _ from p1]
  have c1 : w3.cell? ⟨w.heap.size, 1, none⟩ = some (.int .u8 a) := by simp [World.cell?, hbx]
  have c2 : w3.cell? ⟨w.heap.size, 2, none⟩ = some (.int .u8 b) := by simp [World.cell?, hbx]
  obtain ⟨w4, h1, h2, h3⟩ := hown3.drew.update (val := .pointer (some ⟨w.heap.size + 1, 0, none⟩)) law43 Ybad.underlying29 (by unfold maxLen; omega) hkl rfl
  have hM3 : ∀ j, j ≠ M → (some j : Option Nat) ≠ some M := fun j hj => by simpa using hj
  refine ⟨c5, c1, c2, w4, h1, h3.cell (w := w3.drew) c5 (hM3 S (Ne.symm hMS)), h3.cell (w := w3.drew) c1 (hM3 w.heap.size (by omega)), h3.cell (w := w3.drew) c2 (hM3 w.heap.size (by omega)), w.heap.size + 1, g, cap', ?_, ?_, ?_, h2, ?_, by omega, ?_⟩
  · exact p1.block (h3.block S p1.lt (hM3 S (Ne.symm hMS)))
  · exact p3.drew.kept h3 (.inr (fun e => map_row_ne hown3 p3 e))
  · exact p2.block (h3.block (w.heap.size + 1) p2.lt (hM3 _ (by omega)))
  · have hc := ((W2_chg w S st nm a b due).drew.mono (T := fun j => j = S ∨ j = M ∨ q.ownBlock = some j) (fun _ h => .inl h)).step p4 (fun j hj h => h.elim .inl (fun h => h.elim (fun h => by omega) (fun h => .inr (.inr h))))
    exact hc.drew.grown h3 (fun j hj _ => .inr (.inl (by simpa using hj.symm)))
  · rcases p5 with h | h
    · exact .inl h
    · exact .inr (by have : (W2 w S st nm a b due).drew.heap.size = w.heap.size + 2 := hsz; omega)

set_option maxHeartbeats 1000000 in
/-- 'Start' over an empty queue, the map made. -/
theorem startB (S M k Bq : Nat) (D : DataW Value) (clk du : Value) (qa : Option Addr) (cap : Nat) (st : Int) (nm : ByteArray) (a b due : Int) (kl : Lit) (hkl : keyOf Ybad.prog 43 (.agg #[.int .u8 a, .int .u8 b]) = some kl) (w : World)
    (hst0 : 0 ≤ st) (hst1 : st ≤ 1000) (hk : k ≤ 1000)
    (hS : Stn w S clk du (.map (some M)) (.slice qa 0 cap) st) (hrow : w.ownsRow Bq 70 1 (.slice qa 0 cap) 0 []) (hBq : Bq ≤ w.heap.size) (hown : w.ownsMap Ybad.prog 43 R M k D) (hno : Maps.has D kl = false) :
    Calls Ybad.prog 20 #[.pointer (some ⟨S, 5, none⟩), .agg #[.string nm, .int .u8 a, .int .u8 b, .int .i64 due, .int .u8 0, .bool false]] w fun e w' => e = .returned (.tuple #[]) ∧ Started w S M k Bq 0 D clk du (.slice qa 0 cap) st nm a b due kl [] w' := by
  have hSl := hS.lt
  have hnil : ∀ (r : Option Nat) (W : World), (binOp .eql 29 (.map r) (.map none)).run Ybad.prog W = .ok (.bool r.isNone) W := fun r W => run_eql_map_nil W 29 43 70 r Ybad.underlying29
  have hlk0 : ∀ W : World, W.ownsMap Ybad.prog 43 R M k D → (Instr.lookup 29 (.map (some M)) (.agg #[.int .u8 a, .int .u8 b]) false).run Ybad.prog W = .ok (.pointer none) W := fun W ho => by
    obtain ⟨v, ps, h1, h2⟩ := ho.lookup law43 Ybad.underlying29 (zero70 _) (zd := .held (.pointer none)) (zp := []) rfl hkl
    rw [Maps.atKey_of_not_has hno] at h2
    simp only [R, Option.some.injEq, Prod.mk.injEq, DataW.held.injEq] at h2
    rw [h1, h2.1]
  have hlk1 : ∀ o : Obj, (Instr.lookup 29 (.map (some M)) (.agg #[.int .u8 a, .int .u8 b]) false).run Ybad.prog (w.alloc o).drew = .ok (.pointer none) (w.alloc o).drew := fun o => hlk0 _ (hown.alloc o)
  have hlk2 : ∀ o o' : Obj, (Instr.lookup 29 (.map (some M)) (.agg #[.int .u8 a, .int .u8 b]) false).run Ybad.prog ((w.alloc o).alloc o').drew = .ok (.pointer none) ((w.alloc o).alloc o').drew := fun o o' => hlk0 _ ((hown.alloc o).alloc o')
  have c5 : w.cell? ⟨S, 5, none⟩ = some (.map (some M)) := by simp [World.cell?, show w.heap[S]? = _ from hS]
  have c7 : w.cell? ⟨S, 7, none⟩ = some (.int .u64 st) := by simp [World.cell?, show w.heap[S]? = _ from hS]
  have f7 : w.frozen? ⟨S, 7, none⟩ = false := by simp [World.frozen?, show w.heap[S]? = _ from hS]
  have hqS := row_ne hrow hS (by decide)
  have HS2 := hide (W2_stn nm a b due hS)
  have HT2 := hide (W2_tm w S st nm a b due)
  have HR2 := hide (W2_row (st := st) nm a b due hrow hqS)
  have HMID := hide (fun w3 hp => start_mid (nm := nm) (due := due) (w3 := w3) hkl hk hS hrow hown hp)
  have hz2 := W2_size w S st nm a b due
  have HZ2 := hide hz2
  clear hlk0 hS hrow hown hno hkl hz2 hqS
  go_enter Ybad.func20, Ybad.ntmps20
  go_wp2
  go_region_held3 (fun w' => w'.cell? ⟨w.heap.size, 0, none⟩ = some (.string nm) ∧ w'.cell? ⟨w.heap.size, 1, none⟩ = some (.int .u8 a) ∧ w'.cell? ⟨w.heap.size, 2, none⟩ = some (.int .u8 b) ∧ w'.cell? ⟨w.heap.size, 3, none⟩ = some (.int .i64 due) ∧ w'.cell? ⟨w.heap.size, 4, none⟩ = some (.int .u8 0) ∧ w'.cell? ⟨w.heap.size, 5, none⟩ = some (.bool false) ∧ w'.cell? ⟨S, 5, none⟩ = some (.map (some M)) ∧ w'.cell? ⟨S, 7, none⟩ = some (.int .u64 st) ∧ (Instr.lookup 29 (.map (some M)) (.agg #[.int .u8 a, .int .u8 b]) false).run Ybad.prog w' = .ok (.pointer none) w') (go_keep) (fail)
  clear hlk1 hlk2
  go_wp2_with fail
  refine (hpush0 S (w.heap.size + 1) Bq clk du (.map (some M)) qa cap (st + 1) nm a b due st 0 (W2 w S st nm a b due).drew HS2.out HT2.out HR2.out (by show Bq ≤ (W2 w S st nm a b due).heap.size; rw [HZ2.out]; omega) (by omega)).mono ?_
  rintro e w3 ⟨rfl, hp⟩
  obtain ⟨k5, k1, k2, w4, hrun, e5, e1, e2, hfin⟩ := HMID.out w3 hp
  have HF := hide hfin
  clear hfin hp c5 c7 f7
  go_wp2
  go_region_held3 (fun w' => w'.cell? ⟨S, 5, none⟩ = some (.map (some M)) ∧ w'.cell? ⟨w.heap.size, 1, none⟩ = some (.int .u8 a) ∧ w'.cell? ⟨w.heap.size, 2, none⟩ = some (.int .u8 b)) (go_keep) (fail)
  go_end0
  exact ⟨rfl, HF.out⟩

set_option maxHeartbeats 1000000 in
/-- 'Start' behind one timer that falls due no later. -/
theorem startC (S M k Bq : Nat) (D : DataW Value) (clk du : Value) (qa : Option Addr) (cap : Nat) (st : Int) (nm : ByteArray) (a b due : Int) (kl : Lit) (hkl : keyOf Ybad.prog 43 (.agg #[.int .u8 a, .int .u8 b]) = some kl) (w : World)
    (hst0 : 0 ≤ st) (hst1 : st ≤ 1000) (hk : k ≤ 1000) (u : Nat) (nu : ByteArray) (uv uo d0 o0 i0 : Int) (hu : Tm w u nu uv uo d0 o0 i0) (huS : u ≠ S) (hd : d0 ≤ due) (ho : o0 ≤ st)
    (hS : Stn w S clk du (.map (some M)) (.slice qa 1 cap) st) (hrow : w.ownsRow Bq 70 1 (.slice qa 1 cap) 1 [.pointer (some ⟨u, 0, none⟩)]) (hBq : Bq ≤ w.heap.size) (hown : w.ownsMap Ybad.prog 43 R M k D) (hno : Maps.has D kl = false) :
    Calls Ybad.prog 20 #[.pointer (some ⟨S, 5, none⟩), .agg #[.string nm, .int .u8 a, .int .u8 b, .int .i64 due, .int .u8 0, .bool false]] w fun e w' => e = .returned (.tuple #[]) ∧ Started w S M k Bq 1 D clk du (.slice qa 1 cap) st nm a b due kl [.pointer (some ⟨u, 0, none⟩)] w' := by
  have hSl := hS.lt
  have hnil : ∀ (r : Option Nat) (W : World), (binOp .eql 29 (.map r) (.map none)).run Ybad.prog W = .ok (.bool r.isNone) W := fun r W => run_eql_map_nil W 29 43 70 r Ybad.underlying29
  have hlk0 : ∀ W : World, W.ownsMap Ybad.prog 43 R M k D → (Instr.lookup 29 (.map (some M)) (.agg #[.int .u8 a, .int .u8 b]) false).run Ybad.prog W = .ok (.pointer none) W := fun W ho => by
    obtain ⟨v, ps, h1, h2⟩ := ho.lookup law43 Ybad.underlying29 (zero70 _) (zd := .held (.pointer none)) (zp := []) rfl hkl
    rw [Maps.atKey_of_not_has hno] at h2
    simp only [R, Option.some.injEq, Prod.mk.injEq, DataW.held.injEq] at h2
    rw [h1, h2.1]
  have hlk1 : ∀ o : Obj, (Instr.lookup 29 (.map (some M)) (.agg #[.int .u8 a, .int .u8 b]) false).run Ybad.prog (w.alloc o).drew = .ok (.pointer none) (w.alloc o).drew := fun o => hlk0 _ (hown.alloc o)
  have hlk2 : ∀ o o' : Obj, (Instr.lookup 29 (.map (some M)) (.agg #[.int .u8 a, .int .u8 b]) false).run Ybad.prog ((w.alloc o).alloc o').drew = .ok (.pointer none) ((w.alloc o).alloc o').drew := fun o o' => hlk0 _ ((hown.alloc o).alloc o')
  have c5 : w.cell? ⟨S, 5, none⟩ = some (.map (some M)) := by simp [World.cell?, show w.heap[S]? = _ from hS]
  have c7 : w.cell? ⟨S, 7, none⟩ = some (.int .u64 st) := by simp [World.cell?, show w.heap[S]? = _ from hS]
  have f7 : w.frozen? ⟨S, 7, none⟩ = false := by simp [World.frozen?, show w.heap[S]? = _ from hS]
  have hqS := row_ne hrow hS (by decide)
  have HS2 := hide (W2_stn nm a b due hS)
  have HT2 := hide (W2_tm w S st nm a b due)
  have HR2 := hide (W2_row (st := st) nm a b due hrow hqS)
  have hul := hu.lt
  have HU2 : Hid (Tm (W2 w S st nm a b due) u nu uv uo d0 o0 i0) := hu.block (W2_old w S st nm a b due u hul huS)
  clear hu
  have HMID := hide (fun w3 hp => start_mid (nm := nm) (due := due) (w3 := w3) hkl hk hS hrow hown hp)
  have hz2 := W2_size w S st nm a b due
  have HZ2 := hide hz2
  clear hlk0 hS hrow hown hno hkl hz2 hqS
  go_enter Ybad.func20, Ybad.ntmps20
  go_wp2
  go_region_held3 (fun w' => w'.cell? ⟨w.heap.size, 0, none⟩ = some (.string nm) ∧ w'.cell? ⟨w.heap.size, 1, none⟩ = some (.int .u8 a) ∧ w'.cell? ⟨w.heap.size, 2, none⟩ = some (.int .u8 b) ∧ w'.cell? ⟨w.heap.size, 3, none⟩ = some (.int .i64 due) ∧ w'.cell? ⟨w.heap.size, 4, none⟩ = some (.int .u8 0) ∧ w'.cell? ⟨w.heap.size, 5, none⟩ = some (.bool false) ∧ w'.cell? ⟨S, 5, none⟩ = some (.map (some M)) ∧ w'.cell? ⟨S, 7, none⟩ = some (.int .u64 st) ∧ (Instr.lookup 29 (.map (some M)) (.agg #[.int .u8 a, .int .u8 b]) false).run Ybad.prog w' = .ok (.pointer none) w') (go_keep) (fail)
  clear hlk1 hlk2
  go_wp2_with fail
  refine (hpush1 S (w.heap.size + 1) u Bq clk du (.map (some M)) qa cap (st + 1) nm nu a b due st 0 uv uo d0 o0 i0 (W2 w S st nm a b due).drew HS2.out HT2.out HU2.out HR2.out (by show Bq ≤ (W2 w S st nm a b due).heap.size; rw [HZ2.out]; omega) (by omega) (by omega) huS hd (fun _ => ho)).mono ?_
  rintro e w3 ⟨rfl, hp⟩
  obtain ⟨k5, k1, k2, w4, hrun, e5, e1, e2, hfin⟩ := HMID.out w3 hp
  have HF := hide hfin
  clear hfin hp c5 c7 f7
  go_wp2
  go_region_held3 (fun w' => w'.cell? ⟨S, 5, none⟩ = some (.map (some M)) ∧ w'.cell? ⟨w.heap.size, 1, none⟩ = some (.int .u8 a) ∧ w'.cell? ⟨w.heap.size, 2, none⟩ = some (.int .u8 b)) (go_keep) (fail)
  go_end0
  exact ⟨rfl, HF.out⟩

end Go.Proofs.YbulkbyskDoor
