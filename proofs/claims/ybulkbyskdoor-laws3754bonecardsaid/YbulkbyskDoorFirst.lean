import Derived.Test.YbulkbyskDoorStart
namespace Go.Proofs.YbulkbyskDoor
open Go.RowKit Go.Maps
attribute [local go_sem ↓] Go.wp_at_zero Go.wp_at_succ

def V2 (v : World) (S : Nat) (st : Int) (nm : ByteArray) (a b due : Int) : World :=
  (v.setCell ⟨S, 7, none⟩ (.int .u64 (st + 1))).alloc (.cells #[.string nm, .int .u8 a, .int .u8 b, .int .i64 due, .int .u8 0, .bool false, .int .u64 st, .int .i64 0, .pointer none] 72)
theorem V2_size (w : World) (S : Nat) (st : Int) (nm : ByteArray) (a b due : Int) : (V2 w S st nm a b due).heap.size = w.heap.size + 1 := by simp [V2, World.setCell]
theorem V2_old (w : World) (S : Nat) (st : Int) (nm : ByteArray) (a b due : Int) (j : Nat) (hj : j < w.heap.size) (hS : j ≠ S) : (V2 w S st nm a b due).heap[j]? = w.heap[j]? := by
  unfold V2
  rw [Below.heap_alloc _ _ _ (by simp [World.setCell]; omega), Below.heap_setCell _ _ _ _ hS]
theorem V2_stn {w : World} {S : Nat} {clk du mv q : Value} {st : Int} (nm : ByteArray) (a b due : Int) (h : Stn w S clk du mv q st) : Stn (V2 w S st nm a b due) S clk du mv q (st + 1) := by
  have hl := h.lt
  refine (h.setSt (st + 1)).block ?_
  unfold V2
  rw [Below.heap_alloc _ _ _ (by simp [World.setCell]; omega)]
theorem V2_tm (w : World) (S : Nat) (st : Int) (nm : ByteArray) (a b due : Int) : Tm (V2 w S st nm a b due) w.heap.size nm a b due st 0 := by
  unfold V2 Tm
  have h := heap_alloc_new (w.setCell ⟨S, 7, none⟩ (.int .u64 (st + 1))) (.cells #[.string nm, .int .u8 a, .int .u8 b, .int .i64 due, .int .u8 0, .bool false, .int .u64 st, .int .i64 0, .pointer none] 72)
  have e : (w.setCell ⟨S, 7, none⟩ (.int .u64 (st + 1))).heap.size = w.heap.size := by simp [World.setCell]
  rw [e] at h
  exact h
theorem V2_chg (w : World) (S : Nat) (st : Int) (nm : ByteArray) (a b due : Int) : Chg (fun j => j = S) w (V2 w S st nm a b due) :=
  ((Chg.refl (fun j => j = S) w).setCell (p := ⟨S, 7, none⟩) (fun _ => rfl) (.int .u64 (st + 1))).alloc _

/-- Behind the first push. -/
theorem start_midA {v w3 : World} {S M x Bq : Nat} {clk du : Value} {st : Int} {nm : ByteArray} {a b due : Int} {kl : Lit} (hkl : keyOf Ybad.prog 43 (.agg #[.int .u8 a, .int .u8 b]) = some kl)
    (hS : Stn v S clk du (.map (some M)) (.slice none 0 0) st) (hbx : v.heap[x]? = some (.cells #[.string nm, .int .u8 a, .int .u8 b, .int .i64 due, .int .u8 0, .bool false] 66 (0, 0))) (hxS : x ≠ S) (hown : v.ownsMap Ybad.prog 43 R M 0 (.map []))
    (hp : Pushed (V2 v S st nm a b due).drew S v.heap.size Bq 0 clk du (.map (some M)) (.slice none 0 0) (st + 1) nm a b due st [] w3) :
    w3.cell? ⟨S, 5, none⟩ = some (.map (some M)) ∧ w3.cell? ⟨x, 1, none⟩ = some (.int .u8 a) ∧ w3.cell? ⟨x, 2, none⟩ = some (.int .u8 b) ∧
    ∃ w4, (Instr.mapUpdate 29 (.map (some M)) (.agg #[.int .u8 a, .int .u8 b]) (.pointer (some ⟨v.heap.size, 0, none⟩))).run Ybad.prog w3.drew = .ok () w4 ∧
      w4.cell? ⟨S, 5, none⟩ = some (.map (some M)) ∧ w4.cell? ⟨x, 1, none⟩ = some (.int .u8 a) ∧ w4.cell? ⟨x, 2, none⟩ = some (.int .u8 b) ∧ Started v S M 0 Bq 0 (.map []) clk du (.slice none 0 0) st nm a b due kl [] w4 := by
  obtain ⟨g, cap', p1, p2, p3, p4, p5⟩ := hp
  have hMS := map_ne hown hS
  have hMx := map_ne hown hbx
  have hMl := hown.lt
  have hSl := hS.lt
  have hxl := lt_of_block hbx
  have hsz := V2_size v S st nm a b due
  have hbx3 : w3.heap[x]? = some (.cells #[.string nm, .int .u8 a, .int .u8 b, .int .i64 due, .int .u8 0, .bool false] 66 (0, 0)) :=
    ((p4.block x (by show x < (V2 v S st nm a b due).heap.size; omega) (fun h => h.elim hxS (fun h => h.elim (fun h => by omega) (fun h => by simp [Value.ownBlock] at h)))).trans (V2_old v S st nm a b due x hxl hxS)).trans hbx
  have hown3 : w3.ownsMap Ybad.prog 43 R M 0 (.map []) := map_block hown ((p4.block M (by show M < (V2 v S st nm a b due).heap.size; omega) (fun h => h.elim hMS (fun h => h.elim (fun h => by omega) (fun h => by simp [Value.ownBlock] at h)))).trans (V2_old v S st nm a b due M hMl hMS))
  have c5 : w3.cell? ⟨S, 5, none⟩ = some (.map (some M)) := by simp [World.cell?, show w3.heap[S]? = _ from p1]
  have c1 : w3.cell? ⟨x, 1, none⟩ = some (.int .u8 a) := by simp [World.cell?, hbx3]
  have c2 : w3.cell? ⟨x, 2, none⟩ = some (.int .u8 b) := by simp [World.cell?, hbx3]
  obtain ⟨w4, h1, h2, h3⟩ := hown3.drew.update (val := .pointer (some ⟨v.heap.size, 0, none⟩)) law43 Ybad.underlying29 (by unfold maxLen; omega) hkl rfl
  have hM3 : ∀ j, j ≠ M → (some j : Option Nat) ≠ some M := fun j hj => by simpa using hj
  refine ⟨c5, c1, c2, w4, h1, h3.cell (w := w3.drew) c5 (hM3 S (Ne.symm hMS)), h3.cell (w := w3.drew) c1 (hM3 x (Ne.symm hMx)), h3.cell (w := w3.drew) c2 (hM3 x (Ne.symm hMx)), v.heap.size, g, cap', ?_, ?_, ?_, h2, ?_, by omega, ?_⟩
  · exact p1.block (h3.block S p1.lt (hM3 S (Ne.symm hMS)))
  · exact p3.drew.kept h3 (.inr (fun e => map_row_ne hown3 p3 e))
  · exact p2.block (h3.block v.heap.size p2.lt (hM3 v.heap.size (by omega)))
  · have hc := ((V2_chg v S st nm a b due).drew.mono (T := fun j => j = S ∨ j = M ∨ (Value.slice none 0 0).ownBlock = some j) (fun _ h => .inl h)).step p4 (fun j hj h => h.elim .inl (fun h => h.elim (fun h => by omega) (fun h => .inr (.inr h))))
    exact hc.drew.grown h3 (fun j hj _ => .inr (.inl (by simpa using hj.symm)))
  · rcases p5 with h | h
    · exact .inl h
    · exact .inr (by have : (V2 v S st nm a b due).drew.heap.size = v.heap.size + 1 := hsz; omega)

/-- The world in which the map has just been made. -/
theorem made_facts {w : World} {S : Nat} {clk du q : Value} {st : Int} {nm : ByteArray} {a b due : Int} (hS : Stn w S clk du (.map none) q st) :
    ∃ v, v = ((w.setCell ⟨S, 5, none⟩ (.map (some (w.heap.size + 1)))).alloc (.cells #[.string nm, .int .u8 a, .int .u8 b, .int .i64 due, .int .u8 0, .bool false] 66)).alloc (.map #[] 0) ∧ Stn v S clk du (.map (some (w.heap.size + 1))) q st ∧
      v.heap[w.heap.size]? = some (.cells #[.string nm, .int .u8 a, .int .u8 b, .int .i64 due, .int .u8 0, .bool false] 66 (0, 0)) ∧ v.ownsMap Ybad.prog 43 R (w.heap.size + 1) 0 (.map []) ∧ v.heap.size = w.heap.size + 2 ∧ Chg (fun j => j = S) w v := by
  have hl := hS.lt
  have e : (w.setCell ⟨S, 5, none⟩ (.map (some (w.heap.size + 1)))).heap.size = w.heap.size := by simp [World.setCell]
  have e2 : ((w.setCell ⟨S, 5, none⟩ (.map (some (w.heap.size + 1)))).alloc (.cells #[.string nm, .int .u8 a, .int .u8 b, .int .i64 due, .int .u8 0, .bool false] 66)).heap.size = w.heap.size + 1 := by simp [World.setCell]
  refine ⟨_, rfl, ?_, ?_, ?_, by simp [World.setCell], ?_⟩
  · refine (hS.setM (.map (some (w.heap.size + 1)))).block ?_
    rw [Below.heap_alloc _ _ _ (by rw [e2]; omega), Below.heap_alloc _ _ _ (by rw [e]; omega)]
  · rw [Below.heap_alloc _ _ _ (by rw [e2]; omega)]
    have h := heap_alloc_new (w.setCell ⟨S, 5, none⟩ (.map (some (w.heap.size + 1)))) (.cells #[.string nm, .int .u8 a, .int .u8 b, .int .i64 due, .int .u8 0, .bool false] 66)
    rw [e] at h
    exact h
  · have h := World.ownsMap_made ((w.setCell ⟨S, 5, none⟩ (.map (some (w.heap.size + 1)))).alloc (.cells #[.string nm, .int .u8 a, .int .u8 b, .int .i64 due, .int .u8 0, .bool false] 66)) Ybad.prog 43 R
    rw [e2] at h
    exact h
  · exact (((Chg.refl (fun j => j = S) w).setCell (p := ⟨S, 5, none⟩) (fun _ => rfl) _).alloc _).alloc _

set_option maxHeartbeats 1000000 in
/-- 'Start' of the first timer: the map is made. -/
theorem startA (S Bq : Nat) (clk du : Value) (st : Int) (nm : ByteArray) (a b due : Int) (kl : Lit) (hkl : keyOf Ybad.prog 43 (.agg #[.int .u8 a, .int .u8 b]) = some kl) (w : World)
    (hst0 : 0 ≤ st) (hst1 : st ≤ 1000) (hS : Stn w S clk du (.map none) (.slice none 0 0) st) (hBq : Bq ≤ w.heap.size) :
    Calls Ybad.prog 20 #[.pointer (some ⟨S, 5, none⟩), .agg #[.string nm, .int .u8 a, .int .u8 b, .int .i64 due, .int .u8 0, .bool false]] w fun e w' => e = .returned (.tuple #[]) ∧ ∃ v M, Chg (fun j => j = S) w v ∧ w.heap.size ≤ M ∧ Started v S M 0 Bq 0 (.map []) clk du (.slice none 0 0) st nm a b due kl [] w' := by
  have hSl := hS.lt
  have hmm := @run_makeMap Ybad.prog
  have hnil : ∀ (r : Option Nat) (W : World), (binOp .eql 29 (.map r) (.map none)).run Ybad.prog W = .ok (.bool r.isNone) W := fun r W => run_eql_map_nil W 29 43 70 r Ybad.underlying29
  have c5 : w.cell? ⟨S, 5, none⟩ = some (.map none) := by simp [World.cell?, show w.heap[S]? = _ from hS]
  have f5 : w.frozen? ⟨S, 5, none⟩ = false := by simp [World.frozen?, show w.heap[S]? = _ from hS]
  obtain ⟨v, hv, hSv, hbx, hown, hvz, hcv⟩ := made_facts (nm := nm) (a := a) (b := b) (due := due) hS
  have HV := hide hv
  have HSV := hide hSv
  have HBX := hide hbx
  have HOWN := hide hown
  have HVZ := hide hvz
  have HCV := hide hcv
  have HKL := hide hkl
  clear hv hSv hbx hown hvz hcv hkl hS
  go_enter Ybad.func20, Ybad.ntmps20
  go_wp2
  rw [← HV.out]
  clear c5 f5 hmm
  have hSl' : S < v.heap.size := HSV.out.lt
  have x0 : v.cell? ⟨w.heap.size, 0, none⟩ = some (.string nm) := by simp [World.cell?, HBX.out]
  have x1 : v.cell? ⟨w.heap.size, 1, none⟩ = some (.int .u8 a) := by simp [World.cell?, HBX.out]
  have x2 : v.cell? ⟨w.heap.size, 2, none⟩ = some (.int .u8 b) := by simp [World.cell?, HBX.out]
  have x3 : v.cell? ⟨w.heap.size, 3, none⟩ = some (.int .i64 due) := by simp [World.cell?, HBX.out]
  have x4 : v.cell? ⟨w.heap.size, 4, none⟩ = some (.int .u8 0) := by simp [World.cell?, HBX.out]
  have x5 : v.cell? ⟨w.heap.size, 5, none⟩ = some (.bool false) := by simp [World.cell?, HBX.out]
  have hNl : w.heap.size < v.heap.size := lt_of_block HBX.out
  have c5 : v.cell? ⟨S, 5, none⟩ = some (.map (some (w.heap.size + 1))) := by simp [World.cell?, show v.heap[S]? = _ from HSV.out]
  have c7 : v.cell? ⟨S, 7, none⟩ = some (.int .u64 st) := by simp [World.cell?, show v.heap[S]? = _ from HSV.out]
  have f7 : v.frozen? ⟨S, 7, none⟩ = false := by simp [World.frozen?, show v.heap[S]? = _ from HSV.out]
  have hlk0 : ∀ W : World, W.ownsMap Ybad.prog 43 R (w.heap.size + 1) 0 (.map []) → (Instr.lookup 29 (.map (some (w.heap.size + 1))) (.agg #[.int .u8 a, .int .u8 b]) false).run Ybad.prog W = .ok (.pointer none) W := fun W ho => by
    obtain ⟨v, ps, h1, h2⟩ := ho.lookup law43 Ybad.underlying29 (zero70 _) (zd := .held (.pointer none)) (zp := []) rfl HKL.out
    rw [Maps.atKey_of_not_has rfl] at h2
    simp only [R, Option.some.injEq, Prod.mk.injEq, DataW.held.injEq] at h2
    rw [h1, h2.1]
  have hlk1 : (Instr.lookup 29 (.map (some (w.heap.size + 1))) (.agg #[.int .u8 a, .int .u8 b]) false).run Ybad.prog v.drew = .ok (.pointer none) v.drew := hlk0 _ HOWN.out
  have hlk2 : ∀ o' : Obj, (Instr.lookup 29 (.map (some (w.heap.size + 1))) (.agg #[.int .u8 a, .int .u8 b]) false).run Ybad.prog (v.alloc o').drew = .ok (.pointer none) (v.alloc o').drew := fun o' => hlk0 _ (HOWN.out.alloc o')
  clear hlk0
  go_region_held3 (fun w' => w'.cell? ⟨w.heap.size, 0, none⟩ = some (.string nm) ∧ w'.cell? ⟨w.heap.size, 1, none⟩ = some (.int .u8 a) ∧ w'.cell? ⟨w.heap.size, 2, none⟩ = some (.int .u8 b) ∧ w'.cell? ⟨w.heap.size, 3, none⟩ = some (.int .i64 due) ∧ w'.cell? ⟨w.heap.size, 4, none⟩ = some (.int .u8 0) ∧ w'.cell? ⟨w.heap.size, 5, none⟩ = some (.bool false) ∧ w'.cell? ⟨S, 5, none⟩ = some (.map (some (w.heap.size + 1))) ∧ w'.cell? ⟨S, 7, none⟩ = some (.int .u64 st) ∧ (Instr.lookup 29 (.map (some (w.heap.size + 1))) (.agg #[.int .u8 a, .int .u8 b]) false).run Ybad.prog w' = .ok (.pointer none) w') (go_keep) (fail)
  clear hlk1 hlk2 x0 x1 x2 x3 x4 x5
  go_wp2_with fail
  refine (hpush0 S v.heap.size Bq clk du (.map (some (w.heap.size + 1))) none 0 (st + 1) nm a b due st 0 (V2 v S st nm a b due).drew (V2_stn nm a b due HSV.out) (V2_tm v S st nm a b due) (World.ownsRow_nil _ _ _ _) (by show Bq ≤ (V2 v S st nm a b due).heap.size; rw [V2_size, HVZ.out]; omega) (by omega)).mono ?_
  rintro e w3 ⟨rfl, hp⟩
  obtain ⟨k5, k1, k2, w4, hrun, e5, e1, e2, hfin⟩ := start_midA HKL.out HSV.out HBX.out (by omega) HOWN.out hp
  have HF := hide hfin
  clear hfin hp c5 c7 f7
  go_wp2
  go_region_held3 (fun w' => w'.cell? ⟨S, 5, none⟩ = some (.map (some (w.heap.size + 1))) ∧ w'.cell? ⟨w.heap.size, 1, none⟩ = some (.int .u8 a) ∧ w'.cell? ⟨w.heap.size, 2, none⟩ = some (.int .u8 b)) (go_keep) (fail)
  go_end0
  exact ⟨rfl, v, w.heap.size + 1, HCV.out, by omega, HF.out⟩
end Go.Proofs.YbulkbyskDoor
