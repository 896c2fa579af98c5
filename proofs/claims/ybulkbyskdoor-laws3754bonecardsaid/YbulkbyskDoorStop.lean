import Derived.Test.YbulkbyskDoorHeap
import Derived.Deep.RegionHeld3
import Derived.Deep.DrawnRows
import Derived.ProofKit
namespace Go.Proofs.YbulkbyskDoor
open Go.RowKit Go.Maps
attribute [local go_sem ↓] Go.wp_at_zero Go.wp_at_succ

theorem laidOut : laidOutB Ybad.prog = true := by kernel_rfl
theorem Ybad.row43 : (43 : TypeId) < Ybad.prog.types.size := of_decide_eq_true (by kernel_rfl)
theorem Ybad.wide43 : (match Ybad.prog.underlying 43 with | some (.array _ _) | some (.struct _) => true | _ => false) = true := by kernel_rfl
theorem law43 : Keyed Ybad.prog 43 := Keyed.of_law (deep_law_laid laidOut (m := 2) (by omega) Ybad.row43 (by kernel_rfl) Ybad.wide43)

/-- How an element reads: as itself. -/
def R : Value → Option (DataW Value × List MemPlace) := fun v => some (.held v, [])
theorem zero70 (w : World) : (zeroValue 70).run Ybad.prog w = .ok (.pointer none) w := by kernel_rfl

/-- A TI as a key. -/
def ti (a b : Int) : Value := .agg #[.int .u8 a, .int .u8 b]
theorem lits5 (d : Nat) (a : Int) (ha : (Lit.int .u8 a).wf = true) : Ybad.prog.keyLits (d + 1) 5 [.int .u8 a] = some [.int .u8 a] := by
  unfold Program.keyLits
  rw [Ybad.underlying5]
  simp [ha]
theorem lits41 (d : Nat) (a : Int) (ha : (Lit.int .u8 a).wf = true) : Ybad.prog.keyLits (d + 1) 41 [.int .u8 a] = some [.int .u8 a] := by
  unfold Program.keyLits
  rw [Ybad.underlying41]
  simp [ha]
theorem Ybad.cells43 : Ybad.prog.cellsOf 43 = 2 := by kernel_rfl
theorem Ybad.cells5 : Ybad.prog.cellsOf 5 = 1 := by kernel_rfl
theorem Ybad.cells41 : Ybad.prog.cellsOf 41 = 1 := by kernel_rfl
theorem lits43 (d : Nat) (a b : Int) (ha : (Lit.int .u8 a).wf = true) (hb : (Lit.int .u8 b).wf = true) : Ybad.prog.keyLits (d + 1 + 1) 43 [.int .u8 a, .int .u8 b] = some [.int .u8 a, .int .u8 b] := by
  have h1 := lits5 d a ha
  have h2 := lits41 d b hb
  unfold Program.keyLits
  rw [Ybad.underlying43]
  simp [Ybad.cells43, Ybad.cells5, Ybad.cells41, h1, h2]
theorem key43 (a b : Int) (ha : (Lit.int .u8 a).wf = true) (hb : (Lit.int .u8 b).wf = true) : ∃ kl, keyOf Ybad.prog 43 (ti a b) = some kl := by
  have h1 : Ybad.prog.keyType 43 = true := by kernel_rfl
  have h2 : (ti a b).formed Ybad.prog 43 = true := by kernel_rfl
  have hs : Ybad.prog.types.size + 1 = 111 + 1 + 1 := by kernel_rfl
  have h3 : Ybad.prog.keyLits (Ybad.prog.types.size + 1) 43 (ti a b).cells.toList = some [.int .u8 a, .int .u8 b] := by
    rw [hs]
    exact lits43 111 a b ha hb
  refine ⟨.string (keyBytes [.int .u8 a, .int .u8 b]), ?_⟩
  have e : keyOf Ybad.prog 43 (ti a b) = if Ybad.prog.keyType 43 && (ti a b).formed Ybad.prog 43 then (Ybad.prog.keyLits (Ybad.prog.types.size + 1) 43 (ti a b).cells.toList).map fun ls => .string (keyBytes ls) else none := by
    unfold keyOf
    rw [Ybad.underlying43]
  rw [e, h1, h2, h3]
  rfl

/-- 'delete(m, k)' as one step of a region that draws its order. -/
theorem step_delete {P : Program} {ops : Array Oper} {o : Oper} {a : Act} {w w' : World} {K : Act → World → Prop} {Q : Exit → Act → World → Prop} {E : Prop} (hgd : o.guard = none) (m x : Operand) (t k : TypeId)
    (ho : o.op = .call { callee := .builtin .delete, args := #[m, x], argTypes := #[t, k] }) (v key : Value) (hm : a.eval m = v) (hx : a.eval x = key)
    (hrun : ∀ ty, (Builtin.delete_ #[t, k] ty #[v, key]).run P w = .ok (.tuple #[]) w') (h : K (a.put o.dst (.tuple #[])) w') :
    if Region.wanted o (yielded ops a.tmps) = true then Oper.wp P o a w K Q else E := by
  have hw : Region.wanted o (yielded ops a.tmps) = true := by simp [Region.wanted, hgd]
  rw [if_pos hw]
  unfold Oper.wp
  simp [execOp, ho, resolve, invoke, builtin, hm, hx, hrun, Result.andThen]
  exact h

theorem drop_same {w : World} {M n : Nat} {D : DataW Value} {kl : Lit} {key : Value} (hown : w.ownsMap Ybad.prog 43 R M n D) (hkey : keyOf Ybad.prog 43 key = some kl) :
    ∃ w', (∀ ty, (Builtin.delete_ #[29, 43] ty #[.map (some M), key]).run Ybad.prog w = .ok (.tuple #[]) w') ∧ w'.ownsMap Ybad.prog 43 R M n (D.del kl) ∧ w.grownBy w' (some M) := by
  obtain ⟨w', h1, h2, h3⟩ := hown.drop law43 Ybad.underlying29 hkey 0
  exact ⟨w', fun _ => h1, h2, h3.grown⟩

set_option maxHeartbeats 400000 in
/-- 'StopAll' where no map was made yet. -/
theorem stop_nil (S : Nat) (clk du q : Value) (st : Int) (a b : Int) (ha : (Lit.int .u8 a).wf = true) (hb : (Lit.int .u8 b).wf = true) (w : World) (hS : Stn w S clk du (.map none) q st) :
    Calls Ybad.prog 13 #[.pointer (some ⟨S, 5, none⟩), .agg #[.int .u8 a, .int .u8 b]] w fun e w' => e = .returned (.tuple #[]) ∧ Chg (fun _ => False) w w' := by
  obtain ⟨kl, hkl⟩ := key43 a b ha hb
  have hlk : ∀ W : World, (Instr.lookup 29 (.map none) (.agg #[.int .u8 a, .int .u8 b]) false).run Ybad.prog W = .ok (.pointer none) W := fun W => by
    exact Maps.look_nil false law43 Ybad.underlying29 (zero70 W) hkl
  have hdr : ∀ W : World, ∀ ty, (Builtin.delete_ #[29, 43] ty #[.map none, .agg #[.int .u8 a, .int .u8 b]]).run Ybad.prog W = .ok (.tuple #[]) W := fun W ty => Maps.drop_nil law43 Ybad.underlying29 hkl ty
  have c5 : w.cell? ⟨S, 5, none⟩ = some (.map none) := by simp [World.cell?, show w.heap[S]? = _ from hS]
  have hSl := hS.lt
  clear hkl
  go_enter Ybad.func13, Ybad.ntmps13
  go_wp2
  go_quiet (fail)
  go_wp2
  refine wp_loop_rounds 1 ?_
  rw [rounds_succ]
  go_wp2
  go_region_held3 (fun w' => w'.cell? ⟨S, 5, none⟩ = some (.map none) ∧ w'.cell? ⟨w.heap.size, 0, none⟩ = some (.int .u8 a) ∧ w'.cell? ⟨w.heap.size, 1, none⟩ = some (.int .u8 b)) (go_keep) ((refine step_delete (by rfl) _ _ 29 43 (by rfl) (.map none) (.agg #[.int .u8 a, .int .u8 b]) (by rfl) (by rfl) (hdr _) ?_))
  go_end0
  exact ⟨rfl, (((Chg.refl _ w).alloc _).drewN _).drew⟩

/-- What 'StopAll' leaves of the map, the queue apart. -/
theorem stop_end {w W W' : World} {M : Nat} {T : Nat → Prop} (hc : Chg T w W) (hg : W.grownBy W' (some M)) : Chg (fun k => T k ∨ k = M) w W' :=
  (hc.mono (fun _ h => .inl h)).grown hg (fun k hk _ => .inr (by simpa using hk.symm))

set_option maxHeartbeats 400000 in
/-- 'StopAll' where no timer runs on the leg. -/
theorem stop_none (S M n : Nat) (D : DataW Value) (clk du q : Value) (st : Int) (a b : Int) (kl : Lit) (hkl : keyOf Ybad.prog 43 (.agg #[.int .u8 a, .int .u8 b]) = some kl) (w : World) (hS : Stn w S clk du (.map (some M)) q st)
    (hown : w.ownsMap Ybad.prog 43 R M n D) (hno : Maps.has D kl = false) :
    Calls Ybad.prog 13 #[.pointer (some ⟨S, 5, none⟩), .agg #[.int .u8 a, .int .u8 b]] w fun e w' => e = .returned (.tuple #[]) ∧ w'.ownsMap Ybad.prog 43 R M n (D.del kl) ∧ Chg (fun k => k = M) w w' := by
  have hMS := map_ne hown hS
  have hlk : ∀ (o : Obj) (m : Nat), (Instr.lookup 29 (.map (some M)) (.agg #[.int .u8 a, .int .u8 b]) false).run Ybad.prog ((w.alloc o).drewN m) = .ok (.pointer none) ((w.alloc o).drewN m) := fun o m => by
    have ho : ((w.alloc o).drewN m).ownsMap Ybad.prog 43 R M n D := hown.alloc o
    obtain ⟨v, ps, h1, h2⟩ := ho.lookup law43 Ybad.underlying29 (zero70 _) (zd := .held (.pointer none)) (zp := []) rfl hkl
    rw [Maps.atKey_of_not_has hno] at h2
    simp only [R, Option.some.injEq, Prod.mk.injEq, DataW.held.injEq] at h2
    rw [h1, h2.1]
  have c5 : w.cell? ⟨S, 5, none⟩ = some (.map (some M)) := by simp [World.cell?, show w.heap[S]? = _ from hS]
  have hSl := hS.lt
  have HOWN := hide hown
  have HKL := hide hkl
  clear hkl hown hS hno
  go_enter Ybad.func13, Ybad.ntmps13
  go_wp2
  go_quiet (fail)
  go_wp2
  refine wp_loop_rounds 1 ?_
  rw [rounds_succ]
  go_wp2
  go_region_held3 (fun w' => w'.cell? ⟨S, 5, none⟩ = some (.map (some M)) ∧ w'.cell? ⟨w.heap.size, 0, none⟩ = some (.int .u8 a) ∧ w'.cell? ⟨w.heap.size, 1, none⟩ = some (.int .u8 b)) (go_keep) ((obtain ⟨w2, h1, h2, h3⟩ := drop_same (w := (((w.alloc (.cells #[.int .u8 a, .int .u8 b] 43)).drewN nq).drew)) (HOWN.out.alloc _) HKL.out; have k5 := (h3.cell_far ⟨S, 5, none⟩ (by simp; omega) (by simp; omega)).trans ((World.cell?_alloc_past _ _ _ hSl).trans c5); have k0 : w2.cell? ⟨w.heap.size, 0, none⟩ = some (.int .u8 a) := (h3.cell_far ⟨w.heap.size, 0, none⟩ (by simp) (by simp; have := HOWN.out.lt; omega)).trans (by simp); have k1 : w2.cell? ⟨w.heap.size, 1, none⟩ = some (.int .u8 b) := (h3.cell_far ⟨w.heap.size, 1, none⟩ (by simp) (by simp; have := HOWN.out.lt; omega)).trans (by simp); refine step_delete (by rfl) _ _ 29 43 (by rfl) (.map (some M)) (.agg #[.int .u8 a, .int .u8 b]) (by rfl) (by rfl) h1 ?_))
  go_end0
  exact ⟨rfl, h2, (((((Chg.refl _ w).alloc _).drewN _).drew).grown h3 (fun k hk _ => by simpa using hk.symm))⟩

theorem map_block {w w' : World} {M n : Nat} {D : DataW Value} (h : w.ownsMap Ybad.prog 43 R M n D) (hb : w'.heap[M]? = w.heap[M]?) : w'.ownsMap Ybad.prog 43 R M n D := by
  unfold World.ownsMap at *
  rw [hb]
  exact h

theorem box_facts {w w2 : World} {T : Nat → Prop} {a b : Int} {m : Nat} (hc : Chg T (((w.alloc (.cells #[.int .u8 a, .int .u8 b] 43)).drewN m).drew) w2) (hT : ∀ k, T k → k < w.heap.size) :
    w2.cell? ⟨w.heap.size, 0, none⟩ = some (.int .u8 a) ∧ w2.cell? ⟨w.heap.size, 1, none⟩ = some (.int .u8 b) ∧ w.heap.size < w2.heap.size := by
  have h := hc.block w.heap.size (by simp) (fun h => by have := hT _ h; omega)
  have h2 : w2.heap[w.heap.size]? = some (.cells #[.int .u8 a, .int .u8 b] 43 (0, 0)) := h.trans (heap_alloc_new w _)
  exact ⟨by simp [World.cell?, h2], by simp [World.cell?, h2], lt_of_block h2⟩

/-- The delete that closes 'StopAll'. -/
theorem drop_facts {w W : World} {S M n x : Nat} {a b : Int} {D : DataW Value} {kl : Lit} (hown : W.ownsMap Ybad.prog 43 R M n D) (hkl : keyOf Ybad.prog 43 (.agg #[.int .u8 a, .int .u8 b]) = some kl) (hMS : M ≠ S) (hMx : M ≠ x)
    (c5 : W.cell? ⟨S, 5, none⟩ = some (.map (some M))) (c0 : W.cell? ⟨x, 0, none⟩ = some (.int .u8 a)) (c1 : W.cell? ⟨x, 1, none⟩ = some (.int .u8 b)) (hw : W = w) :
    ∃ w2, (∀ ty, (Builtin.delete_ #[29, 43] ty #[.map (some M), .agg #[.int .u8 a, .int .u8 b]]).run Ybad.prog w.drew = .ok (.tuple #[]) w2) ∧ w2.ownsMap Ybad.prog 43 R M n (D.del kl) ∧ w.drew.grownBy w2 (some M) ∧
      w2.cell? ⟨S, 5, none⟩ = some (.map (some M)) ∧ w2.cell? ⟨x, 0, none⟩ = some (.int .u8 a) ∧ w2.cell? ⟨x, 1, none⟩ = some (.int .u8 b) := by
  subst hw
  obtain ⟨w2, h1, h2, h3⟩ := drop_same hown.drew hkl
  exact ⟨w2, h1, h2, h3, h3.cell c5 (by simpa using Ne.symm hMS), h3.cell c0 (by simpa using Ne.symm hMx), h3.cell c1 (by simpa using Ne.symm hMx)⟩

set_option maxHeartbeats 1000000 in
/-- 'StopAll' of the one timer. -/
theorem stop_one (S M n g cap Bq t : Nat) (D : DataW Value) (clk du : Value) (st : Int) (nt : ByteArray) (tv tov td tord : Int) (a b : Int) (kl : Lit) (hkl : keyOf Ybad.prog 43 (.agg #[.int .u8 a, .int .u8 b]) = some kl) (w : World) (hS : Stn w S clk du (.map (some M)) (.slice (some ⟨g, 0, none⟩) 1 cap) st)
    (hrow : w.ownsRow Bq 70 1 (.slice (some ⟨g, 0, none⟩) 1 cap) 1 [.pointer (some ⟨t, 0, none⟩)]) (ht : Tm w t nt tv tov td tord 0) (htS : t ≠ S)
    (hown : w.ownsMap Ybad.prog 43 R M n D) (hat : D.atKey kl (.held (.pointer none)) = .held (.pointer (some ⟨t, 0, none⟩))) :
    Calls Ybad.prog 13 #[.pointer (some ⟨S, 5, none⟩), .agg #[.int .u8 a, .int .u8 b]] w fun e w' => e = .returned (.tuple #[]) ∧ w'.ownsMap Ybad.prog 43 R M n (D.del kl) ∧ Stn w' S clk du (.map (some M)) (.slice (some ⟨g, 0, none⟩) 0 cap) st ∧
      w'.ownsRow Bq 70 1 (.slice (some ⟨g, 0, none⟩) 0 cap) 0 [] ∧ Chg (fun k => k = M ∨ k = g ∨ k = S) w w' := by
  have hMS := map_ne hown hS
  have hgS : g ≠ S := fun e => row_ne hrow hS (by decide) (by simp [Value.ownBlock, e])
  have hgt : g ≠ t := fun e => row_ne hrow ht (by decide) (by simp [Value.ownBlock, e])
  have hMg : M ≠ g := fun e => map_row_ne hown hrow (by simp [Value.ownBlock, e])
  have hgl := (hrow.lt g rfl).2
  have hlk : ∀ (o : Obj) (m : Nat), (Instr.lookup 29 (.map (some M)) (.agg #[.int .u8 a, .int .u8 b]) false).run Ybad.prog ((w.alloc o).drewN m) = .ok (.pointer (some ⟨t, 0, none⟩)) ((w.alloc o).drewN m) := fun o m => by
    have ho : ((w.alloc o).drewN m).ownsMap Ybad.prog 43 R M n D := hown.alloc o
    obtain ⟨v, ps, h1, h2⟩ := ho.lookup law43 Ybad.underlying29 (zero70 _) (zd := .held (.pointer none)) (zp := []) rfl hkl
    rw [hat] at h2
    simp only [R, Option.some.injEq, Prod.mk.injEq, DataW.held.injEq] at h2
    rw [h1, h2.1]
  have c5 : w.cell? ⟨S, 5, none⟩ = some (.map (some M)) := by simp [World.cell?, show w.heap[S]? = _ from hS]
  have t7 : w.cell? ⟨t, 7, none⟩ = some (.int .i64 0) := by simp [World.cell?, show w.heap[t]? = _ from ht]
  have hSl := hS.lt
  have htl := ht.lt
  have HOWN := hide hown
  have HKL := hide hkl
  have HS := hide hS
  have HR := hide hrow
  have HT := hide ht
  clear hkl hown hS hrow ht hat
  go_enter Ybad.func13, Ybad.ntmps13
  go_wp2
  go_quiet (fail)
  go_wp2
  refine wp_loop_rounds 2 ?_
  rw [rounds_succ]
  go_wp2
  have HS1 : Hid (Stn (((w.alloc (.cells #[.int .u8 a, .int .u8 b] 43)).drewN nq).drew) S clk du (.map (some M)) (.slice (some ⟨g, 0, none⟩) 1 cap) st) := HS.out.block (Below.heap_alloc _ _ _ hSl)
  have HR1 : Hid ((((w.alloc (.cells #[.int .u8 a, .int .u8 b] 43)).drewN nq).drew).ownsRow Bq 70 1 (.slice (some ⟨g, 0, none⟩) 1 cap) 1 [.pointer (some ⟨t, 0, none⟩)]) := HR.out.alloc _
  go_region_held3 (fun w' => w'.cell? ⟨t, 7, none⟩ = some (.int .i64 0)) (go_keep) (first | (go_at_call 17; refine (hremove1 S g cap Bq clk du (.map (some M)) st ⟨t, 0, none⟩ _ HS1.out HR1.out).mono ?_; rintro e w2 ⟨⟨v, rfl⟩, hP⟩; have hb2 := hP.2.2.block t (by simp; omega) (fun h => h.elim (fun h => hgt h.symm) htS); have HP := hide hP; have HT2 : Hid (Tm w2 t nt tv tov td tord 0) := HT.out.block (hb2.trans (Below.heap_alloc _ _ _ htl)); have t72 : w2.cell? ⟨t, 7, none⟩ = some (.int .i64 0) := (by simp [World.cell?, show w2.heap[t]? = _ from HT2.out]); clear hP hb2))
  have HS2 := hide HP.out.1
  have HC2 := hide HP.out.2.2
  obtain ⟨bx0, bx1, bxl⟩ := box_facts HC2.out (fun k h => h.elim (fun h => h ▸ hgl) (fun h => h ▸ hSl))
  have t8 : w2.cell? ⟨t, 8, none⟩ = some (.pointer none) := by simp [World.cell?, show w2.heap[t]? = _ from HT2.out]
  have k5 : w2.cell? ⟨S, 5, none⟩ = some (.map (some M)) := by simp [World.cell?, show w2.heap[S]? = _ from HS2.out]
  have HOWN2 : Hid (w2.ownsMap Ybad.prog 43 R M n D) := map_block HOWN.out ((HC2.out.block M (by simp; have := HOWN.out.lt; omega) (fun h => h.elim hMg hMS)).trans (Below.heap_alloc _ _ _ HOWN.out.lt))
  have hMx : M ≠ w.heap.size := by have := HOWN.out.lt; omega
  clear hlk c5 t7 t72
  go_wp2
  rw [rounds_succ]
  go_wp2
  obtain ⟨w3, d1, d2, d3, d5, d6, d7⟩ := drop_facts (w := w2) HOWN2.out HKL.out hMS hMx k5 bx0 bx1 rfl
  have D1 := hide d1
  have D2 := hide d2
  have D3 := hide d3
  clear d1 d2 d3
  go_region_held3 (fun w' => w'.cell? ⟨S, 5, none⟩ = some (.map (some M)) ∧ w'.cell? ⟨w.heap.size, 0, none⟩ = some (.int .u8 a) ∧ w'.cell? ⟨w.heap.size, 1, none⟩ = some (.int .u8 b)) (go_keep) ((refine step_delete (by rfl) _ _ 29 43 (by rfl) (.map (some M)) (.agg #[.int .u8 a, .int .u8 b]) (by rfl) (by rfl) D1.out ?_))
  go_end0
  refine ⟨rfl, D2.out, HS2.out.block (D3.out.block S HS2.out.lt (by simpa using Ne.symm hMS)), HP.out.2.1.drew.kept D3.out (by simp [Value.ownBlock, Ne.symm hMg]), ?_⟩
  have hc := (((Chg.refl (fun k => k = M ∨ k = g ∨ k = S) w).alloc (.cells #[.int .u8 a, .int .u8 b] 43)).drewN nq).drew.step HC2.out (fun k _ h => .inr h)
  exact hc.drew.grown D3.out (fun k hk _ => .inl (by simpa using hk.symm))

set_option maxHeartbeats 1000000 in
/-- 'StopAll' of the first of two timers. -/
theorem stop_two (S M n g cap Bq t u : Nat) (D : DataW Value) (clk du : Value) (st : Int) (nt nu : ByteArray) (tv tov td tord uv uov ud uord ui : Int) (a b : Int) (kl : Lit) (hkl : keyOf Ybad.prog 43 (.agg #[.int .u8 a, .int .u8 b]) = some kl) (w : World) (hS : Stn w S clk du (.map (some M)) (.slice (some ⟨g, 0, none⟩) 2 cap) st)
    (hrow : w.ownsRow Bq 70 1 (.slice (some ⟨g, 0, none⟩) 2 cap) 2 [.pointer (some ⟨t, 0, none⟩), .pointer (some ⟨u, 0, none⟩)]) (ht : Tm w t nt tv tov td tord 0) (hu : Tm w u nu uv uov ud uord ui) (htS : t ≠ S) (huS : u ≠ S) (htu : t ≠ u)
    (hown : w.ownsMap Ybad.prog 43 R M n D) (hat : D.atKey kl (.held (.pointer none)) = .held (.pointer (some ⟨t, 0, none⟩))) :
    Calls Ybad.prog 13 #[.pointer (some ⟨S, 5, none⟩), .agg #[.int .u8 a, .int .u8 b]] w fun e w' => e = .returned (.tuple #[]) ∧ w'.ownsMap Ybad.prog 43 R M n (D.del kl) ∧ Stn w' S clk du (.map (some M)) (.slice (some ⟨g, 0, none⟩) 1 cap) st ∧
      w'.ownsRow Bq 70 1 (.slice (some ⟨g, 0, none⟩) 1 cap) 1 [.pointer (some ⟨u, 0, none⟩)] ∧ Tm w' u nu uv uov ud uord 0 ∧ Chg (fun k => k = M ∨ k = g ∨ k = S ∨ k = t ∨ k = u) w w' := by
  have hMS := map_ne hown hS
  have hMt := map_ne hown ht
  have hMu := map_ne hown hu
  have hgS : g ≠ S := fun e => row_ne hrow hS (by decide) (by simp [Value.ownBlock, e])
  have hMg : M ≠ g := fun e => map_row_ne hown hrow (by simp [Value.ownBlock, e])
  have hgl := (hrow.lt g rfl).2
  have hlk : ∀ (o : Obj) (m : Nat), (Instr.lookup 29 (.map (some M)) (.agg #[.int .u8 a, .int .u8 b]) false).run Ybad.prog ((w.alloc o).drewN m) = .ok (.pointer (some ⟨t, 0, none⟩)) ((w.alloc o).drewN m) := fun o m => by
    have ho : ((w.alloc o).drewN m).ownsMap Ybad.prog 43 R M n D := hown.alloc o
    obtain ⟨v, ps, h1, h2⟩ := ho.lookup law43 Ybad.underlying29 (zero70 _) (zd := .held (.pointer none)) (zp := []) rfl hkl
    rw [hat] at h2
    simp only [R, Option.some.injEq, Prod.mk.injEq, DataW.held.injEq] at h2
    rw [h1, h2.1]
  have c5 : w.cell? ⟨S, 5, none⟩ = some (.map (some M)) := by simp [World.cell?, show w.heap[S]? = _ from hS]
  have t7 : w.cell? ⟨t, 7, none⟩ = some (.int .i64 0) := by simp [World.cell?, show w.heap[t]? = _ from ht]
  have hSl := hS.lt
  have htl := ht.lt
  have hul := hu.lt
  have HOWN := hide hown
  have HKL := hide hkl
  have HS := hide hS
  have HR := hide hrow
  have HT := hide ht
  have HU := hide hu
  clear hkl hown hS hrow ht hat hu
  go_enter Ybad.func13, Ybad.ntmps13
  go_wp2
  go_quiet (fail)
  go_wp2
  refine wp_loop_rounds 2 ?_
  rw [rounds_succ]
  go_wp2
  have HS1 : Hid (Stn (((w.alloc (.cells #[.int .u8 a, .int .u8 b] 43)).drewN nq).drew) S clk du (.map (some M)) (.slice (some ⟨g, 0, none⟩) 2 cap) st) := HS.out.block (Below.heap_alloc _ _ _ hSl)
  have HR1 : Hid ((((w.alloc (.cells #[.int .u8 a, .int .u8 b] 43)).drewN nq).drew).ownsRow Bq 70 1 (.slice (some ⟨g, 0, none⟩) 2 cap) 2 [.pointer (some ⟨t, 0, none⟩), .pointer (some ⟨u, 0, none⟩)]) := HR.out.alloc _
  have HT1 : Hid (Tm (((w.alloc (.cells #[.int .u8 a, .int .u8 b] 43)).drewN nq).drew) t nt tv tov td tord 0) := HT.out.block (Below.heap_alloc _ _ _ htl)
  have HU1 : Hid (Tm (((w.alloc (.cells #[.int .u8 a, .int .u8 b] 43)).drewN nq).drew) u nu uv uov ud uord ui) := HU.out.block (Below.heap_alloc _ _ _ hul)
  go_region_with (first | (go_at_call 17; refine (hremove2 S g cap Bq t u clk du (.map (some M)) st nt nu tv tov td tord 0 uv uov ud uord ui _ HS1.out HR1.out HT1.out HU1.out htu htS huS).mono ?_; rintro e w2 ⟨⟨v, rfl⟩, ti', hP⟩; have HP := hide hP; have HT2 := hide hP.2.2.1; have t72 : w2.cell? ⟨t, 7, none⟩ = some (.int .i64 ti') := (by simp [World.cell?, show w2.heap[t]? = _ from HT2.out]); clear hP))
  have HS2 := hide HP.out.1
  have HC2 := hide HP.out.2.2.2.2
  obtain ⟨bx0, bx1, bxl⟩ := box_facts HC2.out (fun k h => h.elim (fun h => h ▸ hgl) (fun h => h.elim (fun h => h ▸ hSl) (fun h => h.elim (fun h => h ▸ htl) (fun h => h ▸ hul))))
  have t8 : w2.cell? ⟨t, 8, none⟩ = some (.pointer none) := by simp [World.cell?, show w2.heap[t]? = _ from HT2.out]
  have k5 : w2.cell? ⟨S, 5, none⟩ = some (.map (some M)) := by simp [World.cell?, show w2.heap[S]? = _ from HS2.out]
  have HOWN2 : Hid (w2.ownsMap Ybad.prog 43 R M n D) := map_block HOWN.out ((HC2.out.block M (by simp; have := HOWN.out.lt; omega) (fun h => h.elim hMg (fun h => h.elim hMS (fun h => h.elim hMt hMu)))).trans (Below.heap_alloc _ _ _ HOWN.out.lt))
  have hMx : M ≠ w.heap.size := by have := HOWN.out.lt; omega
  clear hlk c5 t7 t72
  go_wp2
  rw [rounds_succ]
  go_wp2
  obtain ⟨w3, d1, d2, d3, d5, d6, d7⟩ := drop_facts (w := w2) HOWN2.out HKL.out hMS hMx k5 bx0 bx1 rfl
  have D1 := hide d1
  have D2 := hide d2
  have D3 := hide d3
  clear d1 d2 d3
  go_region_held3 (fun w' => w'.cell? ⟨S, 5, none⟩ = some (.map (some M)) ∧ w'.cell? ⟨w.heap.size, 0, none⟩ = some (.int .u8 a) ∧ w'.cell? ⟨w.heap.size, 1, none⟩ = some (.int .u8 b)) (go_keep) ((refine step_delete (by rfl) _ _ 29 43 (by rfl) (.map (some M)) (.agg #[.int .u8 a, .int .u8 b]) (by rfl) (by rfl) D1.out ?_))
  go_end0
  refine ⟨rfl, D2.out, HS2.out.block (D3.out.block S HS2.out.lt (by simpa using Ne.symm hMS)), HP.out.2.1.drew.kept D3.out (by simp [Value.ownBlock, Ne.symm hMg]), HP.out.2.2.2.1.block (D3.out.block u HP.out.2.2.2.1.lt (by simpa using Ne.symm hMu)), ?_⟩
  have hc := (((Chg.refl (fun k => k = M ∨ k = g ∨ k = S ∨ k = t ∨ k = u) w).alloc (.cells #[.int .u8 a, .int .u8 b] 43)).drewN nq).drew.step HC2.out (fun k _ h => .inr h)
  exact hc.drew.grown D3.out (fun k hk _ => .inl (by simpa using hk.symm))
end Go.Proofs.YbulkbyskDoor
