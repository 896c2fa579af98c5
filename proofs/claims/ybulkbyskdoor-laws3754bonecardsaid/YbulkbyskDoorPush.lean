import Derived.Test.YbulkbyskDoorBase
namespace Go.Proofs.YbulkbyskDoor
open Go.RowKit

theorem Ybad.info70 : (Ybad.prog.info? 70).map (fun i => (i.zero, i.size, i.bytes)) = some (some (.pointer none), 1, 8) := by kernel_rfl
theorem ta70 (a : Addr) (w : World) : (Instr.typeAssert (.iface 70 (.pointer (some a))) 20 70 false).run Ybad.prog w = .ok (.pointer (some a)) w := by kernel_rfl
theorem one_ptr (a : Addr) : ∀ u ∈ [Value.pointer (some a)], u.oneCell' = true := by
  intro u hu
  simp at hu
  subst hu
  rfl

/-- What a push leaves: a queue that owns one pointer more. -/
def Pushed (w : World) (S t Bq n : Nat) (clk du mv q : Value) (st : Int) (nm : ByteArray) (tv o due ord : Int) (xs : List Value) (w' : World) : Prop :=
  ∃ g cap, Stn w' S clk du mv (.slice (some ⟨g, 0, none⟩) (n + 1) cap) st ∧ Tm w' t nm tv o due ord n ∧ w'.ownsRow Bq 70 1 (.slice (some ⟨g, 0, none⟩) (n + 1) cap) (n + 1) (xs ++ [.pointer (some ⟨t, 0, none⟩)]) ∧
    Chg (fun k => k = S ∨ k = t ∨ q.ownBlock = some k) w w' ∧ (q.ownBlock = some g ∨ w.heap.size ≤ g)

theorem push_mid {w w1 : World} {S t n : Nat} {clk du mv : Value} {a : Option Addr} {m cap : Nat} {st : Int} {nm : ByteArray} {tv o due ord ix : Int} {ob : Obj}
    (hS : Stn w S clk du mv (.slice a m cap) st) (ht : Tm w t nm tv o due ord ix) (hne : t ≠ S) (hqt : (Value.slice a m cap).ownBlock ≠ some t) (hqS : (Value.slice a m cap).ownBlock ≠ some S)
    (hg : ((w.setCell ⟨t, 7, none⟩ (.int .i64 n)).alloc ob).grownBy w1 (Value.slice a m cap).ownBlock) :
    Hid (Stn w1 S clk du mv (.slice a m cap) st) ∧ Hid (Tm w1 t nm tv o due ord n) ∧ w1.cell? ⟨S, 6, none⟩ = some (.slice a m cap) ∧ w1.frozen? ⟨S, 6, none⟩ = false := by
  have hsz : (w.setCell ⟨t, 7, none⟩ (.int .i64 n)).heap.size = w.heap.size := by simp [World.setCell]
  have h1 : Stn w1 S clk du mv (.slice a m cap) st := by
    refine hS.block ?_
    rw [hg.block S (by simp; have := hS.lt; omega) (fun e => hqS e.symm), Below.heap_alloc _ _ _ (by rw [hsz]; exact hS.lt), Below.heap_setCell _ _ _ _ (by show S ≠ t; omega)]
  have h2 : Tm w1 t nm tv o due ord n := by
    refine (ht.setIx n).block ?_
    rw [hg.block t (by simp; have := ht.lt; omega) (fun e => hqt e.symm), Below.heap_alloc _ _ _ (by rw [hsz]; exact ht.lt)]
  exact ⟨h1, h2, by simp [World.cell?, show w1.heap[S]? = _ from h1], by simp [World.frozen?, show w1.heap[S]? = _ from h1]⟩

theorem push_end {w w1 : World} {S t Bq n : Nat} {clk du mv : Value} {a : Option Addr} {cap g cap' : Nat} {st : Int} {nm : ByteArray} {tv o due ord : Int} {xs : List Value} {ob : Obj}
    (hS : Hid (Stn w1 S clk du mv (.slice a n cap) st)) (ht : Hid (Tm w1 t nm tv o due ord n)) (hne : t ≠ S)
    (hown : w1.ownsRow Bq 70 1 (.slice (some ⟨g, 0, none⟩) (n + 1) cap') (n + 1) (xs ++ [.pointer (some ⟨t, 0, none⟩)]))
    (hg : ((w.setCell ⟨t, 7, none⟩ (.int .i64 n)).alloc ob).grownBy w1 (Value.slice a n cap).ownBlock) (hat : (Value.slice a n cap).ownBlock = some g ∨ g = w.heap.size + 1) :
    Pushed w S t Bq n clk du mv (.slice a n cap) st nm tv o due ord xs (w1.setCell ⟨S, 6, none⟩ (.slice (some ⟨g, 0, none⟩) (n + 1) cap')) := by
  have hqS := row_ne hown hS.out (by decide)
  refine ⟨g, cap', hS.out.setQ _, ht.out.block (Below.heap_setCell _ _ _ _ hne), ownsRow_setCell_other hown hqS _, ?_, ?_⟩
  · exact ((((Chg.refl _ w).setCell (fun _ => .inr (.inl rfl)) _).alloc _).grown hg (fun k hk _ => .inr (.inr hk))).setCell (fun _ => .inl rfl) _
  · rcases hat with h | h
    · exact .inl h
    · exact .inr (by omega)

set_option maxHeartbeats 400000 in
/-- '(*queue).Push'. -/
theorem qpush (S t Bq n : Nat) (clk du mv : Value) (a : Option Addr) (cap : Nat) (st : Int) (nm : ByteArray) (tv o due ord ix : Int) (xs : List Value) (w : World)
    (hS : Stn w S clk du mv (.slice a n cap) st) (ht : Tm w t nm tv o due ord ix) (hown : w.ownsRow Bq 70 1 (.slice a n cap) n xs) (hn : n ≤ 1000) (hBq : Bq ≤ w.heap.size) (hne : t ≠ S) :
    Calls Ybad.prog 55 #[.pointer (some ⟨S, 6, none⟩), .iface 70 (.pointer (some ⟨t, 0, none⟩))] w fun e w' => e = .returned (.tuple #[]) ∧ Pushed w S t Bq n clk du mv (.slice a n cap) st nm tv o due ord xs w' := by
  have hta := ta70
  have c6 : w.cell? ⟨S, 6, none⟩ = some (.slice a n cap) := by simp [World.cell?, show w.heap[S]? = _ from hS]
  have c7 : w.cell? ⟨t, 7, none⟩ = some (.int .i64 ix) := by simp [World.cell?, show w.heap[t]? = _ from ht]
  have f7 : w.frozen? ⟨t, 7, none⟩ = false := by simp [World.frozen?, show w.heap[t]? = _ from ht]
  obtain ⟨i0, hi, hz0, hz1, hz2⟩ := info_parts Ybad.info70
  have hqt := row_ne hown ht (by decide)
  have hqS := row_ne hown hS (by decide)
  have c6b : (w.setCell ⟨t, 7, none⟩ (.int .i64 n)).cell? ⟨S, 6, none⟩ = some (.slice a n cap) := by
    rw [World.cell?_of_block (w := w) (Below.heap_setCell _ _ _ _ (by show S ≠ t; omega))]; exact c6
  have hown2 : (w.setCell ⟨t, 7, none⟩ (.int .i64 n)).ownsRow Bq 70 1 (.slice a n cap) n xs := ownsRow_setCell_other hown hqt _
  have HS := hide hS
  have HT := hide ht
  have HO2 := hide hown2
  have hsz : (w.setCell ⟨t, 7, none⟩ (.int .i64 n)).heap.size = w.heap.size := by simp [World.setCell]
  have HNEW : Hid (∀ j u, [Value.pointer (some ⟨t, 0, none⟩)][j]? = some u → ((w.setCell ⟨t, 7, none⟩ (.int .i64 n)).alloc (.cells #[.pointer (some ⟨t, 0, none⟩)] 70)).cell? ((⟨w.heap.size, 0, none⟩ : Addr).add j) = some u) := by
    have := cell_one_new (w.setCell ⟨t, 7, none⟩ (.int .i64 n)) (.pointer (some ⟨t, 0, none⟩)) 70
    rw [hsz] at this
    exact this
  clear hS ht hown hown2
  go_enter Ybad.func55, Ybad.ntmps55
  go_wp2_with (at_builtin; refine wpList_append_lies _ rfl _ _ 31 rfl Bq 70 i0 (.pointer none) 1 8 Ybad.underlying31 hi hz0 hz1 hz2 rfl (by decide) _ n _ rfl (HO2.out.alloc _) ⟨w.heap.size, 0, none⟩ 1 1 [.pointer (some ⟨t, 0, none⟩)] rfl rfl HNEW.out (one_ptr _) (by decide) (by unfold maxLen; omega) (by omega) (by simp; omega) (w.heap.size + 1) (by simp) ?_; intro g cap' w1 hown1 hgrow hat hlt; obtain ⟨HS1, HT1, c61, f61⟩ := push_mid (n := n) HS.out HT.out hne hqt hqS hgrow)
  go_end0
  exact ⟨rfl, push_end HS1 HT1 hne hown1 hgrow hat⟩
end Go.Proofs.YbulkbyskDoor
