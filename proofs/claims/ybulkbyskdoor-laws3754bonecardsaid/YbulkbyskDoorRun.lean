import Derived.Test.YbulkbyskDoorState
namespace Go.Proofs.YbulkbyskDoor
open Go.RowKit Go.Maps

/-- What an act on the station may touch. -/
def Fr (Nb S : Nat) : Nat → Prop := fun j => j = S ∨ Nb ≤ j
def Fl (Nb S L : Nat) : Nat → Prop := fun j => j = S ∨ j = L ∨ Nb ≤ j

/-- No timer runs. -/
def E0 (n : Nat) (Nb S : Nat) (clk du : Value) (w : World) : Prop :=
  S < Nb ∧ ∃ st : Int, 0 ≤ st ∧ st ≤ n ∧ (Stn w S clk du (.map none) (.slice none 0 0) st ∨ ∃ M k D g cap, Cfg w Nb S clk du st M k D g cap 0 [] ∧ k ≤ n ∧ ∀ kl, Maps.has D kl = false)
/-- One timer runs. -/
def E1 (n : Nat) (Nb S : Nat) (clk du : Value) (nm : ByteArray) (a b due : Int) (kl : Lit) (w : World) : Prop :=
  ∃ (st : Int) (M k : Nat) (D : DataW Value) (g cap t : Nat) (ord : Int), 0 ≤ st ∧ st ≤ n ∧ k ≤ n ∧ ord ≤ st ∧ Cfg w Nb S clk du st M k D g cap 1 [pt t] ∧ Tm w t nm a b due ord 0 ∧ Nb ≤ t ∧ D.atKey kl (.held (.pointer none)) = .held (pt t) ∧ ∀ kl', kl' ≠ kl → Maps.has D kl' = false
/-- Two timers run. -/
def E2 (n : Nat) (Nb S : Nat) (clk du : Value) (nm : ByteArray) (a b due : Int) (kl : Lit) (nu : ByteArray) (ua ub ud : Int) (ku : Lit) (w : World) : Prop :=
  ∃ (st : Int) (M k : Nat) (D : DataW Value) (g cap t u : Nat) (ord ou : Int), 0 ≤ st ∧ st ≤ n ∧ k ≤ n ∧ ou ≤ st ∧ Cfg w Nb S clk du st M k D g cap 2 [pt t, pt u] ∧ Tm w t nm a b due ord 0 ∧ Tm w u nu ua ub ud ou 1 ∧ Nb ≤ t ∧ Nb ≤ u ∧ t ≠ u ∧
    D.atKey kl (.held (.pointer none)) = .held (pt t) ∧ D.atKey ku (.held (.pointer none)) = .held (pt u) ∧ kl ≠ ku ∧ ∀ kl', kl' ≠ kl → kl' ≠ ku → Maps.has D kl' = false

theorem E0.keep {n Nb S : Nat} {clk du : Value} {w w' : World} (h : E0 n Nb S clk du w) (hk : Keep Nb S w w') : E0 n Nb S clk du w' := by
  obtain ⟨hS, st, h0, h1, h | ⟨M, k, D, g, cap, hC, hk9, hno⟩⟩ := h
  · exact ⟨hS, st, h0, h1, .inl (h.block (hk.block S h.lt (.inl rfl)))⟩
  · exact ⟨hS, st, h0, h1, .inr ⟨M, k, D, g, cap, hC.keep hk, hk9, hno⟩⟩
theorem E1.keep {n Nb S : Nat} {clk du : Value} {nm : ByteArray} {a b due : Int} {kl : Lit} {w w' : World} (h : E1 n Nb S clk du nm a b due kl w) (hk : Keep Nb S w w') : E1 n Nb S clk du nm a b due kl w' := by
  obtain ⟨st, M, k, D, g, cap, t, ord, h0, h1, hk9, ho, hC, ht, hN, hat, hno⟩ := h
  exact ⟨st, M, k, D, g, cap, t, ord, h0, h1, hk9, ho, hC.keep hk, ht.keep hk hN, hN, hat, hno⟩
theorem E2.keep {n Nb S : Nat} {clk du : Value} {nm nu : ByteArray} {a b due ua ub ud : Int} {kl ku : Lit} {w w' : World} (h : E2 n Nb S clk du nm a b due kl nu ua ub ud ku w) (hk : Keep Nb S w w') : E2 n Nb S clk du nm a b due kl nu ua ub ud ku w' := by
  obtain ⟨st, M, k, D, g, cap, t, u, ord, ou, h0, h1, hk9, ho, hC, ht, hu, hN, hM, r⟩ := h
  exact ⟨st, M, k, D, g, cap, t, u, ord, ou, h0, h1, hk9, ho, hC.keep hk, ht.keep hk hN, hu.keep hk hM, hN, hM, r⟩

/-- The queue's own row lies at Nb or past it. -/
theorem Cfg.hg {w : World} {Nb S : Nat} {clk du : Value} {st : Int} {M k : Nat} {D : DataW Value} {g cap n : Nat} {xs : List Value} (h : Cfg w Nb S clk du st M k D g cap n xs) : Nb ≤ g := (h.row.lt g rfl).1

theorem has_none_del {D : DataW Value} {kl : Lit} (h : ∀ k, Maps.has D k = false) : ∀ k, Maps.has (D.del kl) k = false := fun k => by
  by_cases e : k = kl
  · subst e; exact Maps.has_del_same
  · rw [Maps.has_del_other e]; exact h k

/-- 'StopAll' where no timer runs. -/
theorem stop0 (n Nb S : Nat) (clk du : Value) (a b : Int) (ha : (Lit.int .u8 a).wf = true) (hb : (Lit.int .u8 b).wf = true) (w : World) (h : E0 n Nb S clk du w) :
    Calls Ybad.prog 13 #[.pointer (some ⟨S, 5, none⟩), .agg #[.int .u8 a, .int .u8 b]] w fun e w' => e = .returned (.tuple #[]) ∧ E0 n Nb S clk du w' ∧ Chg (Fr Nb S) w w' := by
  obtain ⟨hS, st, h0, h1, h | ⟨M, k, D, g, cap, hC, hk9, hno⟩⟩ := h
  · refine (stop_nil S clk du _ st a b ha hb w h).mono ?_
    rintro e w' ⟨rfl, hc⟩
    exact ⟨rfl, ⟨hS, st, h0, h1, .inl (h.block (hc.block S h.lt (fun x => x)))⟩, hc.mono (fun _ x => x.elim)⟩
  · obtain ⟨kl, hkl⟩ := key43 a b ha hb
    refine (stop_none S M k D clk du _ st a b kl hkl w hC.stn hC.map (hno kl)).mono ?_
    rintro e w' ⟨rfl, hm, hc⟩
    have hMS := map_ne hC.map hC.stn
    refine ⟨rfl, ⟨hS, st, h0, h1, .inr ⟨M, k, D.del kl, g, cap, ⟨hC.stn.block (hc.block S hC.stn.lt (Ne.symm hMS)), ?_, hm, hC.hM, hS⟩, hk9, has_none_del hno⟩⟩, hc.mono (fun j e => .inr (e ▸ hC.hM))⟩
    have hr := hC.row
    refine ⟨hr.1, ?_⟩
    rcases hr.2 with hn | ⟨g', cp, cur, hv, hg, hh, r⟩
    · exact .inl hn
    · exact .inr ⟨g', cp, cur, hv, hg, (hc.block g' (lt_of_block hh) (fun e => map_row_ne hC.map hr (by rw [hv]; simp [Value.ownBlock, e]))).trans hh, r⟩

/-- 'StopAll' of the one timer. -/
theorem stop1 (n Nb S : Nat) (clk du : Value) (nm : ByteArray) (a b due : Int) (kl : Lit) (hkl : keyOf Ybad.prog 43 (.agg #[.int .u8 a, .int .u8 b]) = some kl) (w : World) (h : E1 n Nb S clk du nm a b due kl w) :
    Calls Ybad.prog 13 #[.pointer (some ⟨S, 5, none⟩), .agg #[.int .u8 a, .int .u8 b]] w fun e w' => e = .returned (.tuple #[]) ∧ E0 n Nb S clk du w' ∧ Chg (Fr Nb S) w w' := by
  obtain ⟨st, M, k, D, g, cap, t, ord, h0, h1, hk9, ho, hC, ht, hN, hat, hno⟩ := h
  have hS := hC.hS
  refine (stop_one S M k g cap Nb t D clk du st nm a b due ord a b kl hkl w hC.stn hC.row ht (by omega) hC.map hat).mono ?_
  rintro e w' ⟨rfl, hm, hs, hr, hc⟩
  refine ⟨rfl, ⟨hS, st, h0, h1, .inr ⟨M, k, D.del kl, g, cap, ⟨hs, hr, hm, hC.hM, hS⟩, hk9, fun k' => ?_⟩⟩, hc.mono (fun j e => e.elim (fun e => .inr (e ▸ hC.hM)) (fun e => e.elim (fun e => .inr (e ▸ hC.hg)) .inl))⟩
  by_cases e : k' = kl
  · subst e; exact Maps.has_del_same
  · rw [Maps.has_del_other e]; exact hno k' e

/-- 'StopAll' on another leg. -/
theorem stop1o (n Nb S : Nat) (clk du : Value) (nm : ByteArray) (x y a b due : Int) (kl kx : Lit) (hkl : keyOf Ybad.prog 43 (.agg #[.int .u8 x, .int .u8 y]) = some kx) (hne : kx ≠ kl) (w : World) (h : E1 n Nb S clk du nm a b due kl w) :
    Calls Ybad.prog 13 #[.pointer (some ⟨S, 5, none⟩), .agg #[.int .u8 x, .int .u8 y]] w fun e w' => e = .returned (.tuple #[]) ∧ E1 n Nb S clk du nm a b due kl w' ∧ Chg (Fr Nb S) w w' := by
  obtain ⟨st, M, k, D, g, cap, t, ord, h0, h1, hk9, ho, hC, ht, hN, hat, hno⟩ := h
  have hS := hC.hS
  refine (stop_none S M k D clk du _ st x y kx hkl w hC.stn hC.map (hno kx hne)).mono ?_
  rintro e w' ⟨rfl, hm, hc⟩
  have hMS := map_ne hC.map hC.stn
  refine ⟨rfl, ⟨st, M, k, D.del kx, g, cap, t, ord, h0, h1, hk9, ho, ⟨hC.stn.block (hc.block S hC.stn.lt (Ne.symm hMS)), ?_, hm, hC.hM, hS⟩, ht.block (hc.block t ht.lt (Ne.symm (map_ne hC.map ht))), hN, (Maps.atKey_del_other (Ne.symm hne) _).trans hat, fun k' hk' => ?_⟩, hc.mono (fun j e => .inr (e ▸ hC.hM))⟩
  · have hr := hC.row
    refine ⟨hr.1, ?_⟩
    rcases hr.2 with hn | ⟨g', cp, cur, hv, hg, hh, r⟩
    · exact .inl hn
    · exact .inr ⟨g', cp, cur, hv, hg, (hc.block g' (lt_of_block hh) (fun e => map_row_ne hC.map hr (by rw [hv]; simp [Value.ownBlock, e]))).trans hh, r⟩
  · by_cases e : k' = kx
    · subst e; exact Maps.has_del_same
    · rw [Maps.has_del_other e]; exact hno k' hk'

/-- 'StopAll' of the first of two. -/
theorem stop2 (n Nb S : Nat) (clk du : Value) (nm nu : ByteArray) (a b due ua ub ud : Int) (kl ku : Lit) (hkl : keyOf Ybad.prog 43 (.agg #[.int .u8 a, .int .u8 b]) = some kl) (w : World) (h : E2 n Nb S clk du nm a b due kl nu ua ub ud ku w) :
    Calls Ybad.prog 13 #[.pointer (some ⟨S, 5, none⟩), .agg #[.int .u8 a, .int .u8 b]] w fun e w' => e = .returned (.tuple #[]) ∧ E1 n Nb S clk du nu ua ub ud ku w' ∧ Chg (Fr Nb S) w w' := by
  obtain ⟨st, M, k, D, g, cap, t, u, ord, ou, h0, h1, hk9, ho, hC, ht, hu, hN, hNu, htu, hat, hau, hne, hno⟩ := h
  have hS := hC.hS
  refine (stop_two S M k g cap Nb t u D clk du st nm nu a b due ord ua ub ud ou 1 a b kl hkl w hC.stn hC.row ht hu (by omega) (by omega) htu hC.map hat).mono ?_
  rintro e w' ⟨rfl, hm, hs, hr, hu', hc⟩
  refine ⟨rfl, ⟨st, M, k, D.del kl, g, cap, u, ou, h0, h1, hk9, ho, ⟨hs, hr, hm, hC.hM, hS⟩, hu', hNu, (Maps.atKey_del_other (Ne.symm hne) _).trans hau, fun k' hk' => ?_⟩, hc.mono (fun j e => ?_)⟩
  · by_cases e : k' = kl
    · subst e; exact Maps.has_del_same
    · rw [Maps.has_del_other e]; exact hno k' e hk'
  · rcases e with e | e | e | e | e
    · exact .inr (e ▸ hC.hM)
    · exact .inr (e ▸ hC.hg)
    · exact .inl e
    · exact .inr (e ▸ hN)
    · exact .inr (e ▸ hNu)

/-- The start of a timer where none runs. -/
theorem run0 (n Nb S c : Nat) (f : FuncId) (dr : Option Nat) (nm : ByteArray) (a b now due : Int) (kl : Lit) (hkl : keyOf Ybad.prog 43 (.agg #[.int .u8 a, .int .u8 b]) = some kl) (w : World) (hf : f = 12 ∨ f = 6) (hn : n ≤ 50)
    (h : E0 n Nb S (.func (.func f) #[] #[.pointer (some ⟨c, 0, none⟩)]) (.map dr) w) (hNb : Nb ≤ w.heap.size) (hc : w.cell? ⟨c, 0, none⟩ = some (.int .i64 now))
    (h18 : ∀ w1 : World, Same (w.alloc (.cells #[.string nm, .int .u8 a, .int .u8 b, .int .i64 0, .int .u8 0, .bool false] 66)) w1 → Calls Ybad.prog 18 #[.map dr, .string nm, .int .i64 now] w1 fun e w' => e = .returned (.int .i64 due) ∧ w1 = w') :
    Calls Ybad.prog 15 #[.pointer (some ⟨S, 0, none⟩), .agg #[.string nm, .int .u8 a, .int .u8 b, .int .i64 0, .int .u8 0, .bool false]] w fun e w' => e = .returned (.tuple #[]) ∧ E1 (n + 1) Nb S (.func (.func f) #[] #[.pointer (some ⟨c, 0, none⟩)]) (.map dr) nm a b due kl w' ∧ Chg (Fr Nb S) w w' := by
  obtain ⟨hS, st, h0, h1, h | ⟨M, k, D, g, cap, hC, hk9, hno⟩⟩ := h
  · refine (begin0 Nb S c f dr st nm a b now due kl hkl w hf h0 (by omega) h hS hNb hc h18).mono ?_
    rintro e w' ⟨rfl, M, k, g, cap, t, hC, hk, ht, hN, hlt, hch⟩
    refine ⟨rfl, ⟨st + 1, M, k, _, g, cap, t, st, by omega, by omega, ?_, by omega, hC, ht, hN, Maps.atKey_put_same Maps.isMap_empty (law43.key hkl) _ _, fun k' hk' => ?_⟩, hch⟩
    · omega
    · rw [Maps.has_put_other hk']; rfl
  · refine (beginE Nb S c f dr st M k g cap D nm a b now due kl hkl w hf h0 (by omega) hC (by omega) (hno kl) hNb hc h18).mono ?_
    rintro e w' ⟨rfl, M', k', g', cap', t, hC', hk, ht, hN, hlt, hch⟩
    refine ⟨rfl, ⟨st + 1, M', k', _, g', cap', t, st, by omega, by omega, ?_, by omega, hC', ht, hN, Maps.atKey_put_same hC.map.isMap (law43.key hkl) _ _, fun k2 hk2 => ?_⟩, hch⟩
    · omega
    · rw [Maps.has_put_other hk2]; exact hno k2

/-- The start of a timer behind another leg's. -/
theorem run1 (n Nb S c : Nat) (f : FuncId) (dr : Option Nat) (nm nu : ByteArray) (a b now due ua ub ud : Int) (kl ku : Lit) (hkl : keyOf Ybad.prog 43 (.agg #[.int .u8 a, .int .u8 b]) = some kl) (hne : kl ≠ ku) (hd : ud ≤ due) (w : World) (hf : f = 12 ∨ f = 6) (hn : n ≤ 50)
    (h : E1 n Nb S (.func (.func f) #[] #[.pointer (some ⟨c, 0, none⟩)]) (.map dr) nu ua ub ud ku w) (hNb : Nb ≤ w.heap.size) (hc : w.cell? ⟨c, 0, none⟩ = some (.int .i64 now))
    (h18 : ∀ w1 : World, Same (w.alloc (.cells #[.string nm, .int .u8 a, .int .u8 b, .int .i64 0, .int .u8 0, .bool false] 66)) w1 → Calls Ybad.prog 18 #[.map dr, .string nm, .int .i64 now] w1 fun e w' => e = .returned (.int .i64 due) ∧ w1 = w') :
    Calls Ybad.prog 15 #[.pointer (some ⟨S, 0, none⟩), .agg #[.string nm, .int .u8 a, .int .u8 b, .int .i64 0, .int .u8 0, .bool false]] w fun e w' => e = .returned (.tuple #[]) ∧ E2 (n + 1) Nb S (.func (.func f) #[] #[.pointer (some ⟨c, 0, none⟩)]) (.map dr) nu ua ub ud ku nm a b due kl w' ∧ Chg (Fr Nb S) w w' := by
  obtain ⟨st, M, k, D, g, cap, t, ord, h0, h1, hk9, ho, hC, ht, hN, hat, hno⟩ := h
  refine (beginU Nb S c f dr st M k g cap t D nm nu a b now due ua ub ud ord 0 kl hkl w hf h0 (by omega) hC ht hN hd ho (by omega) (hno kl hne) hNb hc h18).mono ?_
  rintro e w' ⟨rfl, ⟨M', k', g', cap', t', hC', hk, ht', hN', hlt, hch⟩, ht2⟩
  refine ⟨rfl, ⟨st + 1, M', k', _, g', cap', t, t', ord, st, by omega, by omega, by omega, by omega, hC', ht2, ht', hN, hN', ?_, (Maps.atKey_put_other (Ne.symm hne) _ _).trans hat, Maps.atKey_put_same hC.map.isMap (law43.key hkl) _ _, Ne.symm hne, fun k2 hk2 hk3 => ?_⟩, hch⟩
  · have := ht.lt; omega
  · rw [Maps.has_put_other hk3]; exact hno k2 hk2
end Go.Proofs.YbulkbyskDoor
