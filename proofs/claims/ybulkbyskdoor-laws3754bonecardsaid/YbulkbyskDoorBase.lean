import Derived.Test.YbulkbyskDoorRows
import Derived.WalkKit
import Derived.WalkSpells
import Derived.WalkLawsBesides
import Derived.Outline
import Derived.Deep.QuietTactic
import Derived.BigQuiet
import Derived.Deep.AppendLies
import Derived.Maps.OwnSet
import Derived.Laws.EntriesVeiled
namespace Go.Proofs.YbulkbyskDoor
open Go.RowKit

theorem hide {p : Prop} (h : p) : Hid p := h

/-- w' is w with new blocks, and with writes to the blocks of S alone. -/
structure Chg (S : Nat → Prop) (w w' : World) : Prop where
  os : w'.os = w.os
  tape : w'.tape = w.tape
  output : w'.output = w.output
  size : w.heap.size ≤ w'.heap.size
  block : ∀ k, k < w.heap.size → ¬ S k → w'.heap[k]? = w.heap[k]?

theorem Chg.refl (S : Nat → Prop) (w : World) : Chg S w w := ⟨rfl, rfl, rfl, Nat.le_refl _, fun _ _ _ => rfl⟩
theorem Chg.step {S T : Nat → Prop} {a b c : World} (h : Chg S a b) (k : Chg T b c) (hT : ∀ k, k < a.heap.size → T k → S k) : Chg S a c :=
  ⟨k.os.trans h.os, k.tape.trans h.tape, k.output.trans h.output, Nat.le_trans h.size k.size, fun i hi hS => (k.block i (Nat.lt_of_lt_of_le hi h.size) (fun ht => hS (hT i hi ht))).trans (h.block i hi hS)⟩
theorem Chg.mono {S T : Nat → Prop} {a b : World} (h : Chg S a b) (hT : ∀ k, S k → T k) : Chg T a b := ⟨h.os, h.tape, h.output, h.size, fun k hk hn => h.block k hk (fun hs => hn (hT k hs))⟩
theorem Chg.drew {S : Nat → Prop} {a w : World} (h : Chg S a w) : Chg S a w.drew := ⟨h.os, h.tape, h.output, h.size, h.block⟩
theorem Chg.drewN {S : Nat → Prop} {a w : World} (h : Chg S a w) (n : Nat) : Chg S a (w.drewN n) := ⟨h.os, h.tape, h.output, h.size, h.block⟩
theorem Chg.alloc {S : Nat → Prop} {a w : World} (h : Chg S a w) (o : Obj) : Chg S a (w.alloc o) :=
  h.step (T := fun _ => False) ⟨rfl, rfl, rfl, by simp, fun k hk _ => Below.heap_alloc _ _ _ hk⟩ (fun _ _ hf => hf.elim)
theorem Chg.setCell {S : Nat → Prop} {a w : World} (h : Chg S a w) {p : Addr} (hp : p.block < a.heap.size → S p.block) (u : Value) : Chg S a (w.setCell p u) :=
  h.step (T := fun k => k = p.block) ⟨rfl, rfl, rfl, by simp [World.setCell], fun k _ hk => Below.heap_setCell _ _ _ _ hk⟩ (fun k hk e => by subst e; exact hp hk)
theorem Chg.grown {S : Nat → Prop} {a w w' : World} {row : Option Nat} (h : Chg S a w) (hg : w.grownBy w' row) (hr : ∀ k, row = some k → k < a.heap.size → S k) : Chg S a w' :=
  h.step (T := fun k => row = some k) ⟨hg.os, hg.tape, hg.output, hg.size, fun k hk hn => hg.block k hk (fun e => hn e.symm)⟩ (fun k hk e => hr k e hk)
theorem Chg.below {S : Nat → Prop} {a w : World} (h : Chg S a w) {B : Nat} (hB : B ≤ a.heap.size) (hS : ∀ k, S k → B ≤ k) : Below B a w :=
  ⟨h.os, h.tape, h.output, h.size, fun k hk => h.block k (by omega) (fun hs => by have := hS k hs; omega)⟩

/-- The world has not turned, but for its tape's place. -/
structure Same (w w' : World) : Prop where
  os : w'.os = w.os
  tape : w'.tape = w.tape
  output : w'.output = w.output
  heap : w'.heap = w.heap
theorem Same.refl (w : World) : Same w w := ⟨rfl, rfl, rfl, rfl⟩
theorem Same.trans {a b c : World} (h : Same a b) (k : Same b c) : Same a c := ⟨k.os.trans h.os, k.tape.trans h.tape, k.output.trans h.output, k.heap.trans h.heap⟩
theorem Same.drewN {a b : World} (h : Same a b) (n : Nat) : Same a (b.drewN n) := ⟨h.os, h.tape, h.output, h.heap⟩
theorem Same.drew {a b : World} (h : Same a b) : Same a b.drew := ⟨h.os, h.tape, h.output, h.heap⟩
theorem Same.cell {w w' : World} (h : Same w w') (a : Addr) : w'.cell? a = w.cell? a := World.cell?_of_block (w := w) (by rw [h.heap])
theorem Same.frozen {w w' : World} (h : Same w w') (a : Addr) : w'.frozen? a = w.frozen? a := World.frozen?_of_block (w := w) (by rw [h.heap])
theorem Same.chg {w w' : World} (h : Same w w') (S : Nat → Prop) : Chg S w w' := ⟨h.os, h.tape, h.output, by rw [h.heap]; exact Nat.le_refl _, fun k _ _ => by rw [h.heap]⟩
theorem Same.row {w w' : World} (h : Same w w') {B e size n : Nat} {v : Value} {xs : List Value} (ho : w.ownsRow B e size v n xs) : w'.ownsRow B e size v n xs := by
  unfold World.ownsRow at *; rw [h.heap]; exact ho
theorem Same.map {w w' : World} (h : Same w w') {P : Program} {k : TypeId} {H : Type} {R : Value → Option (DataW H × List MemPlace)} {m n : Nat} {D : DataW H} (ho : w.ownsMap P k R m n D) : w'.ownsMap P k R m n D := by
  unfold World.ownsMap at *; rw [h.heap]; exact ho

theorem heap_setCell_same {w : World} {b j : Nat} {cs : Array Value} {t : TypeId} {u : Value} (h : w.heap[b]? = some (.cells cs t (0, 0))) : (w.setCell ⟨b, j, none⟩ u).heap[b]? = some (.cells (cs.setIfInBounds j u) t (0, 0)) := by
  have hlt := lt_of_block h
  have h' : w.heap[b] = .cells cs t (0, 0) := by simpa [Array.getElem?_eq_getElem hlt] using h
  show (w.heap.modify b _)[b]? = _
  rw [Array.getElem?_eq_getElem (by simpa using hlt), Array.getElem_modify_self, h']
  rfl

/-- A running timer in block b. -/
def Tm (w : World) (b : Nat) (nm : ByteArray) (tv o due ord ix : Int) : Prop :=
  w.heap[b]? = some (.cells #[.string nm, .int .u8 tv, .int .u8 o, .int .i64 due, .int .u8 0, .bool false, .int .u64 ord, .int .i64 ix, .pointer none] 72 (0, 0))
/-- The station in block S. -/
def Stn (w : World) (S : Nat) (clk du mv q : Value) (st : Int) : Prop :=
  w.heap[S]? = some (.cells #[clk, .slice none 0 0, .slice none 0 0, .slice none 0 0, du, mv, q, .int .u64 st, .int .u8 0] 36 (0, 0))

theorem m_push (a : Addr) (w : World) : (method 212 74 (.pointer (some a)) "Push").run Ybad.prog w = .ok (55, .pointer (some a)) w := by kernel_rfl
theorem m_pop (a : Addr) (w : World) : (method 212 74 (.pointer (some a)) "Pop").run Ybad.prog w = .ok (54, .pointer (some a)) w := by kernel_rfl
theorem ld31 (a : Addr) (x : Option Addr) (n c : Nat) (w : World) (h : w.cell? a = some (.slice x n c)) : (loadVar 31 a).run Ybad.prog w = .ok (.slice x n c) w := by
  simp [loadVar, go_sem, h]
theorem rec_at (a : Addr) (x : Option Addr) (n c : Nat) (w : World) (nm : String) (h : w.cell? a = some (.slice x n c)) :
    (receiverAt 74 (.val (.pointer (some a))) false (some nm)).run Ybad.prog w = .ok (.slice x n c) w := by
  have h1 := ld31 a x n c w h
  have hc : (Builtin.ssaWrapNilChk_ #[74] 74 #[.pointer (some a), strVal "", strVal nm]).run Ybad.prog w = .ok (.pointer (some a)) w := by kernel_rfl
  simp [receiverAt, Place.get, run_underlying Ybad.underlying74, hc, asAddr, h1]
theorem m_of (fuel : Nat) (nm : String) (f : FuncId) (a : Addr) (x : Option Addr) (n c : Nat) (w : World) (h : w.cell? a = some (.slice x n c))
    (h0 : (typeInfo 74).run Ybad.prog w = .ok Ybad.t74 w) (hf : (Ybad.t74.methods.find? (·.name == nm)).map (fun m => (m.path, m.func)) = some (#[], some (f, false))) :
    (method (fuel + 1) 74 (.pointer (some a)) nm).run Ybad.prog w = .ok (f, .slice x n c) w := by
  have h1 := fun s => rec_at a x n c w s h
  obtain ⟨m, hm, hp⟩ := Option.map_eq_some_iff.1 hf
  simp only [Prod.mk.injEq] at hp
  simp [method, h0, hm, hp.1, hp.2, follow, h1]
theorem m_len (a : Addr) (x : Option Addr) (n c : Nat) (w : World) (h : w.cell? a = some (.slice x n c)) : (method 212 74 (.pointer (some a)) "Len").run Ybad.prog w = .ok (41, .slice x n c) w :=
  m_of 211 "Len" 41 a x n c w h (by kernel_rfl) (by kernel_rfl)
theorem m_less (a : Addr) (x : Option Addr) (n c : Nat) (w : World) (h : w.cell? a = some (.slice x n c)) : (method 212 74 (.pointer (some a)) "Less").run Ybad.prog w = .ok (42, .slice x n c) w :=
  m_of 211 "Less" 42 a x n c w h (by kernel_rfl) (by kernel_rfl)
theorem m_swap (a : Addr) (x : Option Addr) (n c : Nat) (w : World) (h : w.cell? a = some (.slice x n c)) : (method 212 74 (.pointer (some a)) "Swap").run Ybad.prog w = .ok (43, .slice x n c) w :=
  m_of 211 "Swap" 43 a x n c w h (by kernel_rfl) (by kernel_rfl)

theorem Stn.lt {w : World} {S : Nat} {clk du mv q : Value} {st : Int} (h : Stn w S clk du mv q st) : S < w.heap.size := lt_of_block h
theorem Tm.lt {w : World} {b : Nat} {nm : ByteArray} {tv o due ord ix : Int} (h : Tm w b nm tv o due ord ix) : b < w.heap.size := lt_of_block h
theorem Stn.block {w w' : World} {S : Nat} {clk du mv q : Value} {st : Int} (h : Stn w S clk du mv q st) (hb : w'.heap[S]? = w.heap[S]?) : Stn w' S clk du mv q st := hb.trans h
theorem Tm.block {w w' : World} {b : Nat} {nm : ByteArray} {tv o due ord ix : Int} (h : Tm w b nm tv o due ord ix) (hb : w'.heap[b]? = w.heap[b]?) : Tm w' b nm tv o due ord ix := hb.trans h
theorem Tm.setIx {w : World} {b : Nat} {nm : ByteArray} {tv o due ord ix : Int} (h : Tm w b nm tv o due ord ix) (i : Int) : Tm (w.setCell ⟨b, 7, none⟩ (.int .i64 i)) b nm tv o due ord i := heap_setCell_same h
theorem Stn.setQ {w : World} {S : Nat} {clk du mv q : Value} {st : Int} (h : Stn w S clk du mv q st) (q' : Value) : Stn (w.setCell ⟨S, 6, none⟩ q') S clk du mv q' st := heap_setCell_same h
theorem Stn.setM {w : World} {S : Nat} {clk du mv q : Value} {st : Int} (h : Stn w S clk du mv q st) (m' : Value) : Stn (w.setCell ⟨S, 5, none⟩ m') S clk du m' q st := heap_setCell_same h
theorem Stn.setSt {w : World} {S : Nat} {clk du mv q : Value} {st : Int} (h : Stn w S clk du mv q st) (s' : Int) : Stn (w.setCell ⟨S, 7, none⟩ (.int .u64 s')) S clk du mv q s' := heap_setCell_same h
theorem Stn.setD {w : World} {S : Nat} {clk du mv q : Value} {st : Int} (h : Stn w S clk du mv q st) (d' : Value) : Stn (w.setCell ⟨S, 4, none⟩ d') S clk d' mv q st := heap_setCell_same h

/-- A row of another type lies elsewhere. -/
theorem row_ne {w : World} {B e size n b : Nat} {v : Value} {xs : List Value} {cs : Array Value} {t : TypeId} (h : w.ownsRow B e size v n xs) (hb : w.heap[b]? = some (.cells cs t (0, 0))) (ht : t ≠ e) : v.ownBlock ≠ some b := by
  intro hk
  rcases h.2 with ⟨rfl, _⟩ | ⟨g, cap, cur, rfl, _, hg, _⟩
  · simp [Value.ownBlock] at hk
  · simp [Value.ownBlock] at hk
    subst hk
    rw [hg] at hb
    simp at hb
    exact ht hb.2.symm
theorem map_ne {w : World} {P : Program} {k : TypeId} {H : Type} {R : Value → Option (DataW H × List MemPlace)} {m n b : Nat} {D : DataW H} {cs : Array Value} {t : TypeId} (h : w.ownsMap P k R m n D) (hb : w.heap[b]? = some (.cells cs t (0, 0))) : m ≠ b := by
  intro e
  subst e
  obtain ⟨es, clock, hm, _⟩ := h
  rw [hm] at hb
  cases hb
theorem map_row_ne {w : World} {P : Program} {k : TypeId} {H : Type} {R : Value → Option (DataW H × List MemPlace)} {m n' B e size n : Nat} {D : DataW H} {v : Value} {xs : List Value} (hm : w.ownsMap P k R m n' D) (h : w.ownsRow B e size v n xs) : v.ownBlock ≠ some m := by
  intro hk
  rcases h.2 with ⟨rfl, _⟩ | ⟨g, cap, cur, rfl, _, hg, _⟩
  · simp [Value.ownBlock] at hk
  · simp [Value.ownBlock] at hk
    subst hk
    exact map_ne hm hg rfl
end Go.Proofs.YbulkbyskDoor
