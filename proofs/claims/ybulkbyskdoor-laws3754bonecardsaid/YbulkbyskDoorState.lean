import Derived.Test.YbulkbyskDoorEnter
namespace Go.Proofs.YbulkbyskDoor
open Go.RowKit Go.Maps

/-- A pointer to block t. -/
def pt (t : Nat) : Value := .pointer (some ⟨t, 0, none⟩)

/-- The station and what it owns stay as they were. -/
structure Keep (Nb S : Nat) (w w' : World) : Prop where
  size : w.heap.size ≤ w'.heap.size
  block : ∀ j, j < w.heap.size → (j = S ∨ Nb ≤ j) → w'.heap[j]? = w.heap[j]?
theorem Same.keep {w w' : World} (h : Same w w') (Nb S : Nat) : Keep Nb S w w' := ⟨by rw [h.heap]; exact Nat.le_refl _, fun j _ _ => by rw [h.heap]⟩
theorem Keep.trans {Nb S : Nat} {a b c : World} (h : Keep Nb S a b) (k : Keep Nb S b c) : Keep Nb S a c := ⟨Nat.le_trans h.size k.size, fun j hj ho => (k.block j (Nat.lt_of_lt_of_le hj h.size) ho).trans (h.block j hj ho)⟩
theorem keep_alloc (Nb S : Nat) (w : World) (o : Obj) : Keep Nb S w (w.alloc o) := ⟨by simp, fun j hj _ => Below.heap_alloc _ _ _ hj⟩
theorem keep_setCell {Nb S : Nat} (w : World) {p : Addr} (hS : p.block ≠ S) (hN : p.block < Nb) (u : Value) : Keep Nb S w (w.setCell p u) :=
  ⟨by simp [World.setCell], fun j _ ho => Below.heap_setCell _ _ _ _ (by omega)⟩

/-- The station with its map made: the timers of xs run. -/
structure Cfg (w : World) (Nb S : Nat) (clk du : Value) (st : Int) (M k : Nat) (D : DataW Value) (g cap n : Nat) (xs : List Value) : Prop where
  stn : Stn w S clk du (.map (some M)) (.slice (some ⟨g, 0, none⟩) n cap) st
  row : w.ownsRow Nb 70 1 (.slice (some ⟨g, 0, none⟩) n cap) n xs
  map : w.ownsMap Ybad.prog 43 R M k D
  hM : Nb ≤ M
  hS : S < Nb

theorem Cfg.keep {w w' : World} {Nb S : Nat} {clk du : Value} {st : Int} {M k : Nat} {D : DataW Value} {g cap n : Nat} {xs : List Value} (h : Cfg w Nb S clk du st M k D g cap n xs) (hk : Keep Nb S w w') : Cfg w' Nb S clk du st M k D g cap n xs := by
  refine ⟨h.stn.block (hk.block S h.stn.lt (.inl rfl)), ?_, map_block h.map (hk.block M h.map.lt (.inr h.hM)), h.hM, h.hS⟩
  refine ⟨h.row.1, ?_⟩
  rcases h.row.2 with hn | ⟨g', cp, cur, hv, hg, hh, r⟩
  · exact .inl hn
  · exact .inr ⟨g', cp, cur, hv, hg, (hk.block g' (lt_of_block hh) (.inr hg)).trans hh, r⟩
theorem Tm.keep {w w' : World} {Nb S b : Nat} {nm : ByteArray} {tv o due ord ix : Int} (h : Tm w b nm tv o due ord ix) (hk : Keep Nb S w w') (hb : Nb ≤ b) : Tm w' b nm tv o due ord ix := h.block (hk.block b h.lt (.inr hb))

/-- What the start of a timer leaves. -/
def Begun (kb : Nat) (w : World) (Nb S : Nat) (clk du : Value) (st : Int) (D : DataW Value) (n : Nat) (nm : ByteArray) (a b due : Int) (kl : Lit) (xs : List Value) (w' : World) : Prop :=
  ∃ M k g cap t, Cfg w' Nb S clk du (st + 1) M k (D.put kl (.held (pt t))) g cap (n + 1) (xs ++ [pt t]) ∧ k ≤ kb ∧ Tm w' t nm a b due st n ∧ Nb ≤ t ∧ w.heap.size ≤ t ∧ Chg (fun j => j = S ∨ Nb ≤ j) w w'

theorem begun_of {w w1 w' : World} {Nb S M k n : Nat} {D : DataW Value} {clk du q : Value} {st : Int} {nm : ByteArray} {a b due : Int} {kl : Lit} {xs : List Value} (hs : Started w1 S M k Nb n D clk du q st nm a b due kl xs w') (hM : Nb ≤ M) {kb : Nat} (hk : k + 1 ≤ kb) (hS : S < Nb) (hNb : Nb ≤ w1.heap.size)
    (hq : ∀ j, q.ownBlock = some j → Nb ≤ j) (hc : Chg (fun j => j = S ∨ Nb ≤ j) w w1) : Begun kb w Nb S clk du st D n nm a b due kl xs w' := by
  obtain ⟨t, g, cap, h1, h2, h3, h4, h5, h6, _⟩ := hs
  refine ⟨M, k + 1, g, cap, t, ⟨h1, h2, h4, hM, hS⟩, by omega, h3, by omega, by have := hc.size; omega, hc.step h5 (fun j _ h => h.elim .inl (fun h => h.elim (fun h => .inr (by omega)) (fun h => .inr (hq j h))))⟩

/-- The first timer of all. -/
theorem begin0 (Nb S c : Nat) (f : FuncId) (dr : Option Nat) (st0 : Int) (nm : ByteArray) (a b now due : Int) (kl : Lit) (hkl : keyOf Ybad.prog 43 (.agg #[.int .u8 a, .int .u8 b]) = some kl) (w : World) (hf : f = 12 ∨ f = 6) (hst0 : 0 ≤ st0) (hst1 : st0 ≤ 1000)
    (hS : Stn w S (.func (.func f) #[] #[.pointer (some ⟨c, 0, none⟩)]) (.map dr) (.map none) (.slice none 0 0) st0) (hSN : S < Nb) (hNb : Nb ≤ w.heap.size) (hc : w.cell? ⟨c, 0, none⟩ = some (.int .i64 now))
    (h18 : ∀ w1 : World, Same (w.alloc (.cells #[.string nm, .int .u8 a, .int .u8 b, .int .i64 0, .int .u8 0, .bool false] 66)) w1 → Calls Ybad.prog 18 #[.map dr, .string nm, .int .i64 now] w1 fun e w' => e = .returned (.int .i64 due) ∧ w1 = w') :
    Calls Ybad.prog 15 #[.pointer (some ⟨S, 0, none⟩), .agg #[.string nm, .int .u8 a, .int .u8 b, .int .i64 0, .int .u8 0, .bool false]] w fun e w' => e = .returned (.tuple #[]) ∧ Begun 1 w Nb S (.func (.func f) #[] #[.pointer (some ⟨c, 0, none⟩)]) (.map dr) st0 (.map []) 0 nm a b due kl [] w' := by
  refine sstart S c f dr _ _ st0 nm a b now due w _ hf hS hc h18 (fun w1 hs => ?_)
  have hk : Keep Nb S w w1 := (keep_alloc Nb S w _).trans (hs.keep Nb S)
  have hS1 := hS.block (hk.block S hS.lt (.inl rfl))
  have hz1 : Nb ≤ w1.heap.size := by have := hk.size; omega
  refine (startA S Nb _ _ st0 nm a b due kl hkl w1 hst0 hst1 hS1 hz1).mono ?_
  rintro e w' ⟨rfl, v, M, hcv, hM, hst⟩
  refine ⟨rfl, begun_of hst (by omega) (by omega) hSN (by have := hcv.size; omega) (fun j h => by simp [Value.ownBlock] at h) ?_⟩
  have h1 : Chg (fun j => j = S ∨ Nb ≤ j) w w1 := ((Chg.refl _ w).alloc _).step (hs.chg (fun _ => False)) (fun _ _ h => h.elim)
  exact h1.step hcv (fun j _ h => .inl h)

/-- A timer where none runs. -/
theorem beginE (Nb S c : Nat) (f : FuncId) (dr : Option Nat) (st0 : Int) (M k g cap : Nat) (D : DataW Value) (nm : ByteArray) (a b now due : Int) (kl : Lit) (hkl : keyOf Ybad.prog 43 (.agg #[.int .u8 a, .int .u8 b]) = some kl) (w : World) (hf : f = 12 ∨ f = 6) (hst0 : 0 ≤ st0) (hst1 : st0 ≤ 1000)
    (hC : Cfg w Nb S (.func (.func f) #[] #[.pointer (some ⟨c, 0, none⟩)]) (.map dr) st0 M k D g cap 0 []) (hk9 : k ≤ 99) (hno : Maps.has D kl = false) (hNb : Nb ≤ w.heap.size) (hc : w.cell? ⟨c, 0, none⟩ = some (.int .i64 now))
    (h18 : ∀ w1 : World, Same (w.alloc (.cells #[.string nm, .int .u8 a, .int .u8 b, .int .i64 0, .int .u8 0, .bool false] 66)) w1 → Calls Ybad.prog 18 #[.map dr, .string nm, .int .i64 now] w1 fun e w' => e = .returned (.int .i64 due) ∧ w1 = w') :
    Calls Ybad.prog 15 #[.pointer (some ⟨S, 0, none⟩), .agg #[.string nm, .int .u8 a, .int .u8 b, .int .i64 0, .int .u8 0, .bool false]] w fun e w' => e = .returned (.tuple #[]) ∧ Begun (k + 1) w Nb S (.func (.func f) #[] #[.pointer (some ⟨c, 0, none⟩)]) (.map dr) st0 D 0 nm a b due kl [] w' := by
  refine sstart S c f dr _ _ st0 nm a b now due w _ hf hC.stn hc h18 (fun w1 hs => ?_)
  have hk : Keep Nb S w w1 := (keep_alloc Nb S w _).trans (hs.keep Nb S)
  have hC1 := hC.keep hk
  have hz1 : Nb ≤ w1.heap.size := by have := hk.size; omega
  refine (startB S M k Nb D _ _ _ cap st0 nm a b due kl hkl w1 hst0 hst1 (by omega) hC1.stn hC1.row hz1 hC1.map hno).mono ?_
  rintro e w' ⟨rfl, hst⟩
  refine ⟨rfl, begun_of hst hC.hM (Nat.le_refl _) hC.hS hz1 (fun j h => (hC1.row.lt j h).1) ?_⟩
  exact ((Chg.refl _ w).alloc _).step (hs.chg (fun _ => False)) (fun _ _ h => h.elim)

/-- A timer behind one that falls due no later. -/
theorem beginU (Nb S c : Nat) (f : FuncId) (dr : Option Nat) (st0 : Int) (M k g cap u : Nat) (D : DataW Value) (nm nu : ByteArray) (a b now due uv uo d0 o0 i0 : Int) (kl : Lit) (hkl : keyOf Ybad.prog 43 (.agg #[.int .u8 a, .int .u8 b]) = some kl) (w : World) (hf : f = 12 ∨ f = 6) (hst0 : 0 ≤ st0) (hst1 : st0 ≤ 1000)
    (hC : Cfg w Nb S (.func (.func f) #[] #[.pointer (some ⟨c, 0, none⟩)]) (.map dr) st0 M k D g cap 1 [pt u]) (hu : Tm w u nu uv uo d0 o0 i0) (huN : Nb ≤ u) (hd : d0 ≤ due) (ho : o0 ≤ st0) (hk9 : k ≤ 99) (hno : Maps.has D kl = false) (hNb : Nb ≤ w.heap.size) (hc : w.cell? ⟨c, 0, none⟩ = some (.int .i64 now))
    (h18 : ∀ w1 : World, Same (w.alloc (.cells #[.string nm, .int .u8 a, .int .u8 b, .int .i64 0, .int .u8 0, .bool false] 66)) w1 → Calls Ybad.prog 18 #[.map dr, .string nm, .int .i64 now] w1 fun e w' => e = .returned (.int .i64 due) ∧ w1 = w') :
    Calls Ybad.prog 15 #[.pointer (some ⟨S, 0, none⟩), .agg #[.string nm, .int .u8 a, .int .u8 b, .int .i64 0, .int .u8 0, .bool false]] w fun e w' => e = .returned (.tuple #[]) ∧ Begun (k + 1) w Nb S (.func (.func f) #[] #[.pointer (some ⟨c, 0, none⟩)]) (.map dr) st0 D 1 nm a b due kl [pt u] w' ∧ Tm w' u nu uv uo d0 o0 i0 := by
  refine sstart S c f dr _ _ st0 nm a b now due w _ hf hC.stn hc h18 (fun w1 hs => ?_)
  have hk : Keep Nb S w w1 := (keep_alloc Nb S w _).trans (hs.keep Nb S)
  have hC1 := hC.keep hk
  have hu1 := hu.keep hk huN
  have hz1 : Nb ≤ w1.heap.size := by have := hk.size; omega
  have huS : u ≠ S := by have := hC.hS; omega
  refine (startC S M k Nb D _ _ _ cap st0 nm a b due kl hkl w1 hst0 hst1 (by omega) u nu uv uo d0 o0 i0 hu1 huS hd ho hC1.stn hC1.row hz1 hC1.map hno).mono ?_
  rintro e w' ⟨rfl, hst⟩
  refine ⟨rfl, begun_of hst hC.hM (Nat.le_refl _) hC.hS hz1 (fun j h => (hC1.row.lt j h).1) (((Chg.refl _ w).alloc _).step (hs.chg (fun _ => False)) (fun _ _ h => h.elim)), ?_⟩
  obtain ⟨t, g', cap', h1, h2, h3, h4, h5, h6, _⟩ := hst
  exact hu1.block (h5.block u hu1.lt (fun h => h.elim huS (fun h => h.elim (fun h => map_ne hC1.map hu1 h.symm) (fun h => row_ne hC1.row hu1 (by decide) h))))
end Go.Proofs.YbulkbyskDoor
