import Derived.Test.YbulkbyqgName
import Derived.Outline
import Derived.Deep.AppendLies
namespace Go.Proofs.Ybulkbyqg
open Go.RowKit

/-- w' is w with new blocks, and with writes to the blocks of S alone. -/
structure Chg (S : Nat → Prop) (w w' : World) : Prop where
  os : w'.os = w.os
  tape : w'.tape = w.tape
  output : w'.output = w.output
  size : w.heap.size ≤ w'.heap.size
  block : ∀ k, k < w.heap.size → ¬ S k → w'.heap[k]? = w.heap[k]?

theorem Chg.refl (S : Nat → Prop) (w : World) : Chg S w w := ⟨rfl, rfl, rfl, Nat.le_refl _, fun _ _ _ => rfl⟩
theorem Chg.step {S T : Nat → Prop} {a b c : World} (h : Chg S a b) (k : Chg T b c) (hT : ∀ k, k < a.heap.size → T k → S k) : Chg S a c :=
  ⟨k.os.trans h.os, k.tape.trans h.tape, k.output.trans h.output, Nat.le_trans h.size k.size, fun i hi hS => (k.block i (Nat.lt_of_lt_of_le hi h.size) (fun ht => hS (hT i hi ht))).trans (h.block i hi hS)⟩
theorem Chg.drew {S : Nat → Prop} {a w : World} (h : Chg S a w) : Chg S a w.drew := ⟨h.os, h.tape, h.output, h.size, h.block⟩
theorem Chg.alloc {S : Nat → Prop} {a w : World} (h : Chg S a w) (o : Obj) : Chg S a (w.alloc o) :=
  h.step (T := fun _ => False) ⟨rfl, rfl, rfl, by simp, fun k hk _ => Below.heap_alloc _ _ _ hk⟩ (fun _ _ hf => hf.elim)
theorem Chg.setCell {S : Nat → Prop} {a w : World} (h : Chg S a w) {p : Addr} (hp : p.block < a.heap.size → S p.block) (u : Value) : Chg S a (w.setCell p u) :=
  h.step (T := fun k => k = p.block) ⟨rfl, rfl, rfl, by simp [World.setCell], fun k _ hk => Below.heap_setCell _ _ _ _ hk⟩ (fun k hk e => by subst e; exact hp hk)
theorem Chg.grown {S : Nat → Prop} {a w w' : World} {row : Option Nat} (h : Chg S a w) (hg : w.grownBy w' row) (hr : ∀ k, row = some k → k < a.heap.size → S k) : Chg S a w' :=
  h.step (T := fun k => row = some k) ⟨hg.os, hg.tape, hg.output, hg.size, fun k hk hn => hg.block k hk (fun e => hn e.symm)⟩ (fun k hk e => hr k e hk)
theorem Chg.below {S : Nat → Prop} {a w : World} (h : Chg S a w) {B : Nat} (hB : B ≤ a.heap.size) (hS : ∀ k, S k → B ≤ k) : Below B a w :=
  ⟨h.os, h.tape, h.output, h.size, fun k hk => h.block k (by omega) (fun hs => by have := hS k hs; omega)⟩

/-- 'earnings' in block b: two numbers and the slice of its entries. -/
structure Earn (w : World) (b B : Nat) (i s : Int) (v : Value) (l : List (ByteArray × Int)) : Prop where
  blk : w.heap[b]? = some (.cells #[.int .i64 i, .int .i64 s, v] 26 (0, 0))
  own : w.ownsRow B 31 2 v l.length (flat l)

theorem block_setCell2 {w : World} {b : Nat} {x y v u : Value} {t : TypeId} (h : w.heap[b]? = some (.cells #[x, y, v] t (0, 0))) : (w.setCell ⟨b, 2, none⟩ u).heap[b]? = some (.cells #[x, y, u] t (0, 0)) := by
  have hlt := lt_of_block h
  have h' : w.heap[b] = .cells #[x, y, v] t (0, 0) := by simpa [Array.getElem?_eq_getElem hlt] using h
  show (w.heap.modify b _)[b]? = _
  rw [Array.getElem?_eq_getElem (by simpa using hlt), Array.getElem_modify_self, h']
  rfl

theorem Yba.info31 : (Yba.prog.info? 31).map (fun i => (i.zero, i.size, i.bytes)) = some (some (.agg #[.string ⟨#[]⟩, .int .i64 0]), 2, 24) := by kernel_rfl

/-- What 'addSupport' leaves. -/
def Added (w : World) (b B : Nat) (i s : Int) (v : Value) (l : List (ByteArray × Int)) (p : ByteArray) (a : Int) (w' : World) : Prop :=
  ∃ v', Earn w' b B i s v' (addS l p a) ∧ Chg (fun k => k = b ∨ v.ownBlock = some k) w w' ∧ (v'.ownBlock = v.ownBlock ∨ ∃ g, v'.ownBlock = some g ∧ w.heap.size ≤ g)

theorem added_hit {b B g cap : Nat} {i s : Int} {l : List (ByteArray × Int)} {p : ByteArray} {a : Int} {w : World} (he : Earn w b B i s (.slice (some ⟨g, 0, none⟩) l.length cap) l) (hbB : b < B)
    {k : Nat} (hk : k < l.length) (hno : ∀ j, (hj : j < l.length) → j < k → (l[j]).1 ≠ p) (hp : (l[k]).1 = p) :
    Added w b B i s (.slice (some ⟨g, 0, none⟩) l.length cap) l p a (w.setCell ⟨g, k * 2 + 1, none⟩ (.int .i64 (wrap64 ((l[k]).2 + a)))) := by
  have hg := he.own.lt g rfl
  have hlen : (addS l p a).length = l.length := by rw [addS_hit l p a k hk (fun j hj => hno j (by omega) hj) hp]; simp
  refine ⟨.slice (some ⟨g, 0, none⟩) l.length cap, ⟨?_, ?_⟩, ?_, .inl rfl⟩
  · rw [Below.heap_setCell _ _ _ _ (by show b ≠ g; omega)]; exact he.blk
  · rw [hlen, addS_hit l p a k hk (fun j hj => hno j (by omega) hj) hp, flat_set l k hk]
    exact (he.own.stored _ _).1
  · exact (Chg.refl _ _).setCell (fun _ => .inr rfl) _

theorem added_miss {b B g cap : Nat} {i s : Int} {v : Value} {l : List (ByteArray × Int)} {p : ByteArray} {a : Int} {w w1 : World} (he : Earn w b B i s v l) (hbB : b < B) (o : Obj)
    (hno : ∀ j, (hj : j < l.length) → (l[j]).1 ≠ p) (hown : w1.ownsRow B 31 2 (.slice (some ⟨g, 0, none⟩) (l.length + 1) cap) (l.length + 1) (flat l ++ [.string p, .int .i64 a]))
    (hgrow : (w.alloc o).grownBy w1 v.ownBlock) (hat : v.ownBlock = some g ∨ g = w.heap.size + 1) :
    Added w b B i s v l p a (w1.setCell ⟨b, 2, none⟩ (.slice (some ⟨g, 0, none⟩) (l.length + 1) cap)) := by
  have hb := lt_of_block he.blk
  have hne : ∀ k, v.ownBlock = some k → b ≠ k := fun k hk => by have := he.own.lt k hk; omega
  have hb1 : w1.heap[b]? = some (.cells #[.int .i64 i, .int .i64 s, v] 26 (0, 0)) := by
    rw [hgrow.block b (by simp; omega) (fun e => hne b e.symm rfl), Below.heap_alloc _ _ _ hb]; exact he.blk
  have hlen : (addS l p a).length = l.length + 1 := by rw [addS_miss l p a hno]; simp
  have hg := hown.lt g rfl
  refine ⟨.slice (some ⟨g, 0, none⟩) (l.length + 1) cap, ⟨block_setCell2 hb1, ?_⟩, ?_, ?_⟩
  · rw [hlen, addS_miss l p a hno, flat_append]
    exact ownsRow_setCell_below hown hbB _
  · exact (((Chg.refl _ w).alloc o).grown hgrow (fun k hk _ => .inr hk)).setCell (fun _ => .inl rfl) _
  · rcases hat with h | h
    · exact .inl h.symm
    · exact .inr ⟨g, rfl, by omega⟩

theorem str_eq {a b : ByteArray} (h : a.toList = b.toList) : a = b := by
  rw [ByteArray.toList_eq, ByteArray.toList_eq] at h
  cases a; cases b
  simp only [ByteArray.mk.injEq]
  exact Array.toList_inj.1 h
theorem one_pair (p : ByteArray) (a : Int) : ∀ u ∈ [Value.string p, .int .i64 a], u.oneCell' = true := by
  intro u hu
  simp at hu
  rcases hu with rfl | rfl <;> rfl
theorem after_append {b B : Nat} {i s : Int} {v : Value} {l : List (ByteArray × Int)} {w w1 : World} {o : Obj} (he : Earn w b B i s v l) (hbB : b < B) (hgrow : (w.alloc o).grownBy w1 v.ownBlock) :
    w1.cell? ⟨b, 2, none⟩ = some v ∧ w1.frozen? ⟨b, 2, none⟩ = false := by
  have hb := lt_of_block he.blk
  have hne : ∀ k, v.ownBlock = some k → b ≠ k := fun k hk => by have := he.own.lt k hk; omega
  have hb1 : w1.heap[b]? = some (.cells #[.int .i64 i, .int .i64 s, v] 26 (0, 0)) := by
    rw [hgrow.block b (by simp; omega) (fun e => hne b e.symm rfl), Below.heap_alloc _ _ _ hb]; exact he.blk
  exact ⟨by simp [World.cell?, hb1], by simp [World.frozen?, hb1]⟩

set_option maxHeartbeats 400000 in
theorem add_row (b B g cap : Nat) (i s : Int) (l : List (ByteArray × Int)) (p : ByteArray) (a : Int) (w : World)
    (he : Earn w b B i s (.slice (some ⟨g, 0, none⟩) l.length cap) l) (hbB : b < B) (hBs : B ≤ w.heap.size) (hlen : l.length ≤ 100000) :
    Calls Yba.prog 5 #[.pointer (some ⟨b, 0, none⟩), .string p, .int .i64 a] w fun e w' => e = .returned (.tuple #[]) ∧ Added w b B i s (.slice (some ⟨g, 0, none⟩) l.length cap) l p a w' := by
  have hown := he.own
  have hc2 : w.cell? ⟨b, 2, none⟩ = some (.slice (some ⟨g, 0, none⟩) l.length cap) := by simp [World.cell?, he.blk]
  have hf2 : w.frozen? ⟨b, 2, none⟩ = false := by simp [World.frozen?, he.blk]
  obtain ⟨i0, hi, hz0, hz1, hz2⟩ := info_parts Yba.info31
  have hbs := lt_of_block he.blk
  have hgb := hown.lt g rfl
  go_enter Yba.func5, Yba.ntmps5
  go_wp2
  go_loop [12] (fun t => ∃ k : Nat, k ≤ l.length ∧ t = .int .i64 k ∧ ∀ j, (hj : j < l.length) → j < k → (l[j]).1 ≠ p) (fun t => l.length - (intOf t).toNat)
  case atStart => exact ⟨0, Nat.zero_le _, rfl, fun j _ hj => absurd hj (by omega)⟩
  case round =>
    obtain ⟨k, hk, rfl, hno⟩ := hrel
    have HN : Hid (∀ j, (hj : j < l.length) → j < k → (l[j]).1 ≠ p) := hno
    clear hno
    by_cases hlt : k < l.length
    · have g0 : w.cell? ⟨g, k * 2, none⟩ = some (.string (l[k]).1) := by rw [hown.cellAt _ (by omega)]; exact flat_even l k hlt
      have g1 : w.cell? ⟨g, k * 2 + 1, none⟩ = some (.int .i64 (l[k]).2) := by rw [hown.cellAt _ (by omega)]; exact flat_odd l k hlt
      have f1 : w.frozen? ⟨g, k * 2 + 1, none⟩ = false := hown.frozenAt _
      by_cases hp : (l[k]).1 = p
      · have ht : ((l[k]).1.toList == p.toList) = true := by rw [hp]; simp
        have HP : Hid ((l[k]).1 = p) := hp
        clear hp
        go_wp2
        refine bodyPost_ret (results_none rfl _ _ _) rfl ?_
        exact ⟨rfl, added_hit he hbB hlt HN.out HP.out⟩
      · have ht : ((l[k]).1.toList == p.toList) = false := by
          simp only [beq_eq_false_iff_ne]
          intro h
          exact hp (str_eq h)
        have HP : Hid (¬ (l[k]).1 = p) := hp
        clear hp
        go_wp2
        go_round
        case rel =>
          refine ⟨k + 1, by omega, by go_num, fun j hj hjk => ?_⟩
          by_cases e : j = k
          · subst e; exact HP.out
          · exact HN.out j hj (by omega)
        case measure => simp [intOf]; omega
    · have hm : ∀ j, (hj : j < l.length) → (l[j]).1 ≠ p := fun j hj => HN.out j hj (by omega)
      have HM : Hid (∀ j, (hj : j < l.length) → (l[j]).1 ≠ p) := hm
      clear hm
      go_wp2_with (at_builtin; refine wpList_append_lies _ rfl _ _ 24 rfl B 31 i0 (.agg #[.string ⟨#[]⟩, .int .i64 0]) 2 24 Yba.underlying24 hi hz0 hz1 hz2 rfl (by decide) _ l.length _ rfl (hown.alloc _) ⟨w.heap.size, 0, none⟩ 1 1 [.string p, .int .i64 a] rfl rfl (World.news_of_block (heap_alloc_new w _)) (one_pair p a) (by decide) (by unfold maxLen; omega) (by omega) (by simp; omega) (w.heap.size + 1) (by simp) ?_; intro g' cap' w1 hown1 hgrow hat hg1; have hc3 := after_append he hbB hgrow; obtain ⟨hc3, hf3⟩ := hc3)
      go_end0
      exact ⟨rfl, added_miss he hbB _ HM.out hown1 hgrow hat⟩

set_option maxHeartbeats 400000 in
theorem add_nil (b B : Nat) (i s : Int) (p : ByteArray) (a : Int) (w : World)
    (he : Earn w b B i s (.slice none 0 0) []) (hbB : b < B) (hBs : B ≤ w.heap.size) :
    Calls Yba.prog 5 #[.pointer (some ⟨b, 0, none⟩), .string p, .int .i64 a] w fun e w' => e = .returned (.tuple #[]) ∧ Added w b B i s (.slice none 0 0) [] p a w' := by
  have hown := he.own
  have hc2 : w.cell? ⟨b, 2, none⟩ = some (.slice none 0 0) := by simp [World.cell?, he.blk]
  have hf2 : w.frozen? ⟨b, 2, none⟩ = false := by simp [World.frozen?, he.blk]
  obtain ⟨i0, hi, hz0, hz1, hz2⟩ := info_parts Yba.info31
  have hbs := lt_of_block he.blk
  go_enter Yba.func5, Yba.ntmps5
  go_wp2
  go_loop [12] (fun t => t = .int .i64 0) (fun _ => 0)
  case atStart => exact rfl
  case round =>
    obtain rfl := hrel
    go_wp2_with (at_builtin; refine wpList_append_lies _ rfl _ _ 24 rfl B 31 i0 (.agg #[.string ⟨#[]⟩, .int .i64 0]) 2 24 Yba.underlying24 hi hz0 hz1 hz2 rfl (by decide) _ 0 _ rfl (hown.alloc _) ⟨w.heap.size, 0, none⟩ 1 1 [.string p, .int .i64 a] rfl rfl (World.news_of_block (heap_alloc_new w _)) (one_pair p a) (by decide) (by unfold maxLen; omega) (by omega) (by simp; omega) (w.heap.size + 1) (by simp) ?_; intro g' cap' w1 hown1 hgrow hat hg1; have hc3 := after_append he hbB hgrow; obtain ⟨hc3, hf3⟩ := hc3)
    go_end0
    exact ⟨rfl, added_miss he hbB _ (fun j hj => absurd hj (by simp)) hown1 hgrow hat⟩

/-- 'addSupport', whatever the entries. -/
theorem add_any (b B : Nat) (i s : Int) (v : Value) (l : List (ByteArray × Int)) (p : ByteArray) (a : Int) (w : World)
    (he : Earn w b B i s v l) (hbB : b < B) (hBs : B ≤ w.heap.size) (hlen : l.length ≤ 100000) :
    Calls Yba.prog 5 #[.pointer (some ⟨b, 0, none⟩), .string p, .int .i64 a] w fun e w' => e = .returned (.tuple #[]) ∧ Added w b B i s v l p a w' := by
  rcases he.own.2 with ⟨hv, hl⟩ | ⟨g, cap, _, hv, _⟩
  · subst hv
    obtain rfl : l = [] := List.eq_nil_of_length_eq_zero hl
    exact add_nil b B i s p a w he hbB hBs
  · subst hv
    exact add_row b B g cap i s l p a w he hbB hBs hlen
end Go.Proofs.Ybulkbyqg
