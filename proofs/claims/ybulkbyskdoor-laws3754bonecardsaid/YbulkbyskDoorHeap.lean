import Derived.Test.YbulkbyskDoorUp
namespace Go.Proofs.YbulkbyskDoor
open Go.RowKit

theorem Same.stn {w w' : World} (h : Same w w') {S : Nat} {clk du mv q : Value} {st : Int} (hS : Stn w S clk du mv q st) : Stn w' S clk du mv q st := hS.block (by rw [h.heap])
theorem Same.tm {w w' : World} (h : Same w w') {b : Nat} {nm : ByteArray} {tv o due ord ix : Int} (ht : Tm w b nm tv o due ord ix) : Tm w' b nm tv o due ord ix := ht.block (by rw [h.heap])
theorem Pushed.same {w w1 w2 : World} {S t Bq n : Nat} {clk du mv q : Value} {st : Int} {nm : ByteArray} {tv o due ord : Int} {xs : List Value} (h : Pushed w S t Bq n clk du mv q st nm tv o due ord xs w1) (hs : Same w1 w2) : Pushed w S t Bq n clk du mv q st nm tv o due ord xs w2 := by
  obtain ⟨g, cap, h1, h2, h3, h4, h5⟩ := h
  exact ⟨g, cap, hs.stn h1, hs.tm h2, hs.row h3, h4.step (hs.chg (fun _ => False)) (fun _ _ hf => hf.elim), h5⟩

set_option maxHeartbeats 400000 in
/-- 'heap.Push' behind one timer that falls due no later. -/
theorem hpush1 (S t u Bq : Nat) (clk du mv : Value) (a : Option Addr) (cap : Nat) (st : Int) (nm nu : ByteArray) (tv o due ord ix uv uo d0 o0 i0 : Int) (w : World)
    (hS : Stn w S clk du mv (.slice a 1 cap) st) (ht : Tm w t nm tv o due ord ix) (hu : Tm w u nu uv uo d0 o0 i0) (hown : w.ownsRow Bq 70 1 (.slice a 1 cap) 1 [.pointer (some ⟨u, 0, none⟩)]) (hBq : Bq ≤ w.heap.size) (hne : t ≠ S) (hut : u ≠ t) (huS : u ≠ S)
    (hd : d0 ≤ due) (ho : d0 = due → o0 ≤ ord) :
    Calls Ybad.prog 23 #[.iface 74 (.pointer (some ⟨S, 6, none⟩)), .iface 70 (.pointer (some ⟨t, 0, none⟩))] w fun e w' => e = .returned (.tuple #[]) ∧ Pushed w S t Bq 1 clk du mv (.slice a 1 cap) st nm tv o due ord [.pointer (some ⟨u, 0, none⟩)] w' := by
  have hm := m_push
  have hqu := row_ne hown hu (by decide)
  go_enter Ybad.func23, Ybad.ntmps23
  go_wp2_with fail
  refine (qpush S t Bq 1 clk du mv a cap st nm tv o due ord ix _ _ hS ht hown (by omega) hBq hne).mono ?_
  rintro e w1 ⟨rfl, hp⟩
  have HP := hide hp
  obtain ⟨g, cap', h1, h2, h3, h4, _⟩ := hp
  have hu1 : Tm w1 u nu uv uo d0 o0 i0 := hu.block (h4.block u hu.lt (fun h => h.elim huS (fun h => h.elim hut hqu)))
  have c6 : w1.cell? ⟨S, 6, none⟩ = some (.slice (some ⟨g, 0, none⟩) 2 cap') := by simp [World.cell?, show w1.heap[S]? = _ from h1]
  have g0 : w1.cell? ⟨g, 0, none⟩ = some (.pointer (some ⟨u, 0, none⟩)) := by rw [h3.cellAt 0 (by omega)]; rfl
  have g1 : w1.cell? ⟨g, 1, none⟩ = some (.pointer (some ⟨t, 0, none⟩)) := by rw [h3.cellAt 1 (by omega)]; rfl
  have hl := m_len ⟨S, 6, none⟩ (some ⟨g, 0, none⟩) 2 cap' w1 c6
  have HU := hide hu1
  have HT := hide h2
  have HO := hide ho
  clear h1 h2 h3 h4 hS ht hu hown hu1 ho
  go_wp2_with fail
  refine (qlen (some ⟨g, 0, none⟩) 2 cap' _).mono ?_
  rintro e w2 ⟨rfl, rfl⟩
  go_wp2_with fail
  refine (up_one S g cap' u t nu nm uv uo tv o d0 due o0 ord i0 _ _ c6 g0 g1 HU.out HT.out hd HO.out).mono ?_
  rintro e w2 ⟨rfl, hs⟩
  go_wp2
  go_end0
  exact ⟨rfl, HP.out.same hs⟩

set_option maxHeartbeats 1000000 in
/-- '(queue).Swap' of the two. -/
theorem qswap (g cap Bq t u : Nat) (nt nu : ByteArray) (tv tov td tord ti uv uov ud uord ui : Int) (w : World) (hown : w.ownsRow Bq 70 1 (.slice (some ⟨g, 0, none⟩) 2 cap) 2 [.pointer (some ⟨t, 0, none⟩), .pointer (some ⟨u, 0, none⟩)])
    (ht : Tm w t nt tv tov td tord ti) (hu : Tm w u nu uv uov ud uord ui) (hne : t ≠ u) :
    Calls Ybad.prog 43 #[.slice (some ⟨g, 0, none⟩) 2 cap, .int .i64 0, .int .i64 1] w fun e w' => e = .returned (.tuple #[]) ∧
      w'.ownsRow Bq 70 1 (.slice (some ⟨g, 0, none⟩) 2 cap) 2 [.pointer (some ⟨u, 0, none⟩), .pointer (some ⟨t, 0, none⟩)] ∧ Tm w' t nt tv tov td tord 1 ∧ Tm w' u nu uv uov ud uord 0 ∧ Chg (fun k => k = g ∨ k = t ∨ k = u) w w' := by
  have g0 : w.cell? ⟨g, 0, none⟩ = some (.pointer (some ⟨t, 0, none⟩)) := by rw [hown.cellAt 0 (by omega)]; rfl
  have g1 : w.cell? ⟨g, 1, none⟩ = some (.pointer (some ⟨u, 0, none⟩)) := by rw [hown.cellAt 1 (by omega)]; rfl
  have f0 : w.frozen? ⟨g, 0, none⟩ = false := hown.frozenAt 0
  have f1 : w.frozen? ⟨g, 1, none⟩ = false := hown.frozenAt 1
  have hgt : g ≠ t := fun e => row_ne hown ht (by decide) (by simp [Value.ownBlock, e])
  have hgu : g ≠ u := fun e => row_ne hown hu (by decide) (by simp [Value.ownBlock, e])
  have t7 : w.cell? ⟨t, 7, none⟩ = some (.int .i64 ti) := by simp [World.cell?, show w.heap[t]? = _ from ht]
  have u7 : w.cell? ⟨u, 7, none⟩ = some (.int .i64 ui) := by simp [World.cell?, show w.heap[u]? = _ from hu]
  have ft : w.frozen? ⟨t, 7, none⟩ = false := by simp [World.frozen?, show w.heap[t]? = _ from ht]
  have fu : w.frozen? ⟨u, 7, none⟩ = false := by simp [World.frozen?, show w.heap[u]? = _ from hu]
  have HOWN := hide hown
  have HT := hide ht
  have HU := hide hu
  clear hown ht hu
  go_enter Ybad.func43, Ybad.ntmps43
  go_wp2
  go_region
  go_wp2
  go_region
  go_end0
  refine ⟨rfl, ?_⟩
  have h1 := (HOWN.out.stored 0 (.pointer (some ⟨u, 0, none⟩))).1
  have h2 := (h1.stored 1 (.pointer (some ⟨t, 0, none⟩))).1
  have h3 := ownsRow_setCell_other (a := ⟨u, 7, none⟩) h2 (by simp [Value.ownBlock, hgu]) (.int .i64 0)
  have h4 := ownsRow_setCell_other (a := ⟨t, 7, none⟩) h3 (by simp [Value.ownBlock, hgt]) (.int .i64 1)
  refine ⟨h4.drew.drew, ?_, ?_, ?_⟩
  · have := (HT.out.block (w' := ((w.setCell ⟨g, 0, none⟩ (.pointer (some ⟨u, 0, none⟩))).setCell ⟨g, 1, none⟩ (.pointer (some ⟨t, 0, none⟩))).setCell ⟨u, 7, none⟩ (.int .i64 0)) (by
      rw [Below.heap_setCell _ _ _ _ (by exact hne), Below.heap_setCell _ _ _ _ (by exact Ne.symm hgt), Below.heap_setCell _ _ _ _ (by exact Ne.symm hgt)])).setIx 1
    exact this
  · have h5 := (HU.out.block (w' := (w.setCell ⟨g, 0, none⟩ (.pointer (some ⟨u, 0, none⟩))).setCell ⟨g, 1, none⟩ (.pointer (some ⟨t, 0, none⟩))) (by
      rw [Below.heap_setCell _ _ _ _ (by exact Ne.symm hgu), Below.heap_setCell _ _ _ _ (by exact Ne.symm hgu)])).setIx 0
    exact h5.block (Below.heap_setCell _ _ _ _ (by exact Ne.symm hne))
  · exact (((((Chg.refl _ w).setCell (fun _ => .inl rfl) _).setCell (fun _ => .inl rfl) _).setCell (fun _ => .inr (.inr rfl)) _).setCell (fun _ => .inr (.inl rfl)) _).drew.drew

/-- What '(*queue).Pop' leaves. -/
def Popped (w : World) (S g cap Bq n : Nat) (clk du mv : Value) (st : Int) (xs : List Value) (w' : World) : Prop :=
  Stn w' S clk du mv (.slice (some ⟨g, 0, none⟩) n cap) st ∧ w'.ownsRow Bq 70 1 (.slice (some ⟨g, 0, none⟩) n cap) n xs ∧ Chg (fun k => k = g ∨ k = S) w w'

theorem row_pop {w : World} {Bq g cap n : Nat} {xs : List Value} {x y : Value} (h : w.ownsRow Bq 70 1 (.slice (some ⟨g, 0, none⟩) (n + 1) cap) (n + 1) (xs ++ [x])) : (w.setCell ⟨g, n, none⟩ y).ownsRow Bq 70 1 (.slice (some ⟨g, 0, none⟩) n cap) n xs := by
  have h1 := (h.stored n y).1
  obtain ⟨hl, h2⟩ := h1
  have hxl : xs.length = n := by simp at hl; omega
  refine ⟨by omega, .inr ?_⟩
  rcases h2 with ⟨h2, _⟩ | ⟨g', cp, cur, hv, hb, hh, hn, hm, hs, htk⟩
  · simp at h2
  · simp at hv
    obtain ⟨rfl, rfl⟩ := hv
    refine ⟨g, cap, cur, rfl, hb, hh, by omega, hm, hs, ?_⟩
    have e : (List.take ((n + 1) * 1) cur.toList).take (n * 1) = ((xs ++ [x]).set n y).take (n * 1) := by rw [htk]
    rw [List.take_take, Nat.min_eq_left (by omega)] at e
    rw [e, Nat.mul_one, List.set_append_right _ _ (by omega), List.take_append_of_le_length (by omega), List.take_of_length_le (by omega)]

set_option maxHeartbeats 400000 in
theorem qpop (S g cap Bq n : Nat) (clk du mv : Value) (st : Int) (xs : List Value) (x : Addr) (w : World) (hn : n ≤ 1000)
    (hS : Stn w S clk du mv (.slice (some ⟨g, 0, none⟩) (n + 1) cap) st) (hown : w.ownsRow Bq 70 1 (.slice (some ⟨g, 0, none⟩) (n + 1) cap) (n + 1) (xs ++ [.pointer (some x)])) :
    Calls Ybad.prog 54 #[.pointer (some ⟨S, 6, none⟩)] w fun e w' => e = .returned (.iface 70 (.pointer (some x))) ∧ Popped w S g cap Bq n clk du mv st xs w' := by
  have hxl : xs.length = n := by have := hown.1; simp at this; omega
  have c6 : w.cell? ⟨S, 6, none⟩ = some (.slice (some ⟨g, 0, none⟩) (n + 1) cap) := by simp [World.cell?, show w.heap[S]? = _ from hS]
  have f6 : w.frozen? ⟨S, 6, none⟩ = false := by simp [World.frozen?, show w.heap[S]? = _ from hS]
  have gn : w.cell? ⟨g, n, none⟩ = some (.pointer (some x)) := by rw [hown.cellAt n (by omega)]; simp [← hxl]
  have fn : w.frozen? ⟨g, n, none⟩ = false := hown.frozenAt n
  have hgS : g ≠ S := fun e => row_ne hown hS (by decide) (by simp [Value.ownBlock, e])
  have hcap : n + 1 ≤ cap := by
    rcases hown.2 with ⟨h2, _⟩ | ⟨g', cp, cur, hv, hb, hh, hnc, _⟩
    · simp at h2
    · simp at hv; omega
  have HS := hide hS
  have HO := hide hown
  clear hS hown
  go_enter Ybad.func54, Ybad.ntmps54
  go_wp2
  go_ret
  exact ⟨rfl, (HS.out.block (Below.heap_setCell _ _ _ _ (Ne.symm hgS))).setQ _, ownsRow_setCell_other (row_pop HO.out) (by simp [Value.ownBlock, hgS]) _, ((Chg.refl _ w).setCell (fun _ => .inl rfl) _).setCell (fun _ => .inr rfl) _⟩

set_option maxHeartbeats 400000 in
/-- 'heap.Remove' of the one timer. -/
theorem hremove1 (S g cap Bq : Nat) (clk du mv : Value) (st : Int) (x : Addr) (w : World)
    (hS : Stn w S clk du mv (.slice (some ⟨g, 0, none⟩) 1 cap) st) (hown : w.ownsRow Bq 70 1 (.slice (some ⟨g, 0, none⟩) 1 cap) 1 [.pointer (some x)]) :
    Calls Ybad.prog 17 #[.iface 74 (.pointer (some ⟨S, 6, none⟩)), .int .i64 0] w fun e w' => (∃ v, e = .returned v) ∧ Popped w S g cap Bq 0 clk du mv st [] w' := by
  have c6 : w.cell? ⟨S, 6, none⟩ = some (.slice (some ⟨g, 0, none⟩) 1 cap) := by simp [World.cell?, show w.heap[S]? = _ from hS]
  have hl := m_len ⟨S, 6, none⟩ (some ⟨g, 0, none⟩) 1 cap w c6
  have hp := m_pop
  have HS := hide hS
  have HO := hide hown
  clear hS hown
  go_enter Ybad.func17, Ybad.ntmps17
  go_wp2_with fail
  refine (qlen (some ⟨g, 0, none⟩) 1 cap _).mono ?_
  rintro e w2 ⟨rfl, rfl⟩
  go_wp2_with fail
  refine (qpop S g cap Bq 0 clk du mv st [] x _ (by omega) HS.out HO.out).mono ?_
  rintro e w2 ⟨rfl, hP⟩
  have HP := hide hP
  clear hP
  go_wp2
  go_ret
  exact ⟨⟨_, rfl⟩, HP.out⟩

set_option maxHeartbeats 400000 in
/-- 'heap.Remove' of the first of two. -/
theorem hremove2 (S g cap Bq t u : Nat) (clk du mv : Value) (st : Int) (nt nu : ByteArray) (tv tov td tord ti uv uov ud uord ui : Int) (w : World)
    (hS : Stn w S clk du mv (.slice (some ⟨g, 0, none⟩) 2 cap) st) (hown : w.ownsRow Bq 70 1 (.slice (some ⟨g, 0, none⟩) 2 cap) 2 [.pointer (some ⟨t, 0, none⟩), .pointer (some ⟨u, 0, none⟩)])
    (ht : Tm w t nt tv tov td tord ti) (hu : Tm w u nu uv uov ud uord ui) (hne : t ≠ u) (htS : t ≠ S) (huS : u ≠ S) :
    Calls Ybad.prog 17 #[.iface 74 (.pointer (some ⟨S, 6, none⟩)), .int .i64 0] w fun e w' => (∃ v, e = .returned v) ∧
      ∃ ti', Stn w' S clk du mv (.slice (some ⟨g, 0, none⟩) 1 cap) st ∧ w'.ownsRow Bq 70 1 (.slice (some ⟨g, 0, none⟩) 1 cap) 1 [.pointer (some ⟨u, 0, none⟩)] ∧ Tm w' t nt tv tov td tord ti' ∧ Tm w' u nu uv uov ud uord 0 ∧ Chg (fun k => k = g ∨ k = S ∨ k = t ∨ k = u) w w' := by
  have c6 : w.cell? ⟨S, 6, none⟩ = some (.slice (some ⟨g, 0, none⟩) 2 cap) := by simp [World.cell?, show w.heap[S]? = _ from hS]
  have hl := m_len ⟨S, 6, none⟩ (some ⟨g, 0, none⟩) 2 cap w c6
  have hsw := m_swap ⟨S, 6, none⟩ (some ⟨g, 0, none⟩) 2 cap w c6
  have hp := m_pop
  have hgS : g ≠ S := fun e => row_ne hown hS (by decide) (by simp [Value.ownBlock, e])
  have hgt : g ≠ t := fun e => row_ne hown ht (by decide) (by simp [Value.ownBlock, e])
  have hgu : g ≠ u := fun e => row_ne hown hu (by decide) (by simp [Value.ownBlock, e])
  have HS := hide hS
  have HO := hide hown
  have HT := hide ht
  have HU := hide hu
  clear hS hown ht hu
  go_enter Ybad.func17, Ybad.ntmps17
  go_wp2_with fail
  refine (qlen (some ⟨g, 0, none⟩) 2 cap _).mono ?_
  rintro e w2 ⟨rfl, rfl⟩
  go_wp2_with fail
  refine (qswap g cap Bq t u nt nu tv tov td tord ti uv uov ud uord ui _ HO.out HT.out HU.out hne).mono ?_
  rintro e w2 ⟨rfl, hr2, ht2, hu2, hc2⟩
  have HR2 := hide hr2
  have HT2 := hide ht2
  have HU2 := hide hu2
  have HC2 := hide hc2
  have HS2 := hide (HS.out.block (hc2.block S HS.out.lt (fun h => h.elim (fun h => hgS h.symm) (fun h => h.elim (fun h => htS h.symm) (fun h => huS h.symm)))))
  clear hr2 ht2 hu2 hc2 hsw hl
  go_wp2_with fail
  refine (down_one S _).mono ?_
  rintro e w3 ⟨rfl, rfl⟩
  go_wp2_with fail
  refine (up_zero S _).mono ?_
  rintro e w3 ⟨rfl, rfl⟩
  go_wp2_with fail
  refine (qpop S g cap Bq 1 clk du mv st [.pointer (some ⟨u, 0, none⟩)] ⟨t, 0, none⟩ _ (by omega) HS2.out HR2.out).mono ?_
  rintro e w3 ⟨rfl, hP⟩
  have HP := hide hP
  clear hP
  go_wp2
  go_ret
  obtain ⟨p1, p2, p3⟩ := HP.out
  refine ⟨⟨_, rfl⟩, 1, p1, p2, HT2.out.block (p3.block t HT2.out.lt (fun h => h.elim (fun h => hgt h.symm) htS)), HU2.out.block (p3.block u HU2.out.lt (fun h => h.elim (fun h => hgu h.symm) huS)), ?_⟩
  exact (HC2.out.mono (fun k h => h.elim .inl (fun h => h.elim (fun h => .inr (.inr (.inl h))) (fun h => .inr (.inr (.inr h)))))).step p3 (fun k _ h => h.elim .inl (fun h => .inr (.inl h)))
end Go.Proofs.YbulkbyskDoor
