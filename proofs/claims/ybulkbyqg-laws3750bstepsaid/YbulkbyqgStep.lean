import Derived.Test.YbulkbyqgCopy
namespace Go.Proofs.Ybulkbyqg
open Go.RowKit
attribute [local go_sem ↓] Go.wp_at_zero Go.wp_at_succ

theorem flat_oneCell (l : List (ByteArray × Int)) : ∀ v ∈ flat l, v.oneCell' = true := by
  induction l with
  | nil => intro v hv; simp [flat] at hv
  | cons x r ih =>
    intro v hv
    simp only [flat, List.mem_cons] at hv
    rcases hv with rfl | rfl | h
    · rfl
    · rfl
    · exact ih v h

/-- Where the entry of that name was met among the first k. -/
def At (l : List (ByteArray × Int)) (p : ByteArray) (k : Nat) (A : Int) : Prop :=
  (A = -1 ∧ ∀ j, (hj : j < l.length) → j < k → (l[j]).1 ≠ p) ∨ ∃ m : Nat, m < k ∧ A = (m : Int) ∧ ∃ hm : m < l.length, (l[m]).1 = p

theorem At.zero (l : List (ByteArray × Int)) (p : ByteArray) : At l p 0 (-1) := .inl ⟨rfl, fun j _ hj => absurd hj (by omega)⟩
theorem At.hit (l : List (ByteArray × Int)) (p : ByteArray) (k : Nat) (hk : k < l.length) (hp : (l[k]).1 = p) : At l p (k + 1) k := .inr ⟨k, by omega, rfl, hk, hp⟩
theorem At.miss {l : List (ByteArray × Int)} {p : ByteArray} {k : Nat} {A : Int} (h : At l p k A) (hk : k < l.length) (hp : ¬ (l[k]).1 = p) : At l p (k + 1) A := by
  rcases h with ⟨h1, h2⟩ | ⟨m, h1, h2⟩
  · refine .inl ⟨h1, fun j hj hjk => ?_⟩
    by_cases e : j = k
    · subst e; exact hp
    · exact h2 j hj (by omega)
  · exact .inr ⟨m, by omega, h2⟩

/-- Every name stands once. -/
theorem map_unique (N : List ByteArray) (S : ByteArray → Int) (hd : N.Nodup) : ∀ j m, (hj : j < (N.map fun x => (x, S x)).length) → (hm : m < (N.map fun x => (x, S x)).length) → ((N.map fun x => (x, S x))[j]).1 = ((N.map fun x => (x, S x))[m]).1 → j = m := by
  intro j m hj hm h
  simp only [List.getElem_map] at h
  have hp := List.pairwise_iff_getElem.1 hd
  have hj' : j < N.length := by simpa using hj
  have hm' : m < N.length := by simpa using hm
  rcases Nat.lt_trichotomy j m with h1 | h1 | h1
  · exact absurd h (hp j m hj' hm' h1)
  · exact h1
  · exact absurd h.symm (hp m j hm' hj' h1)

theorem made31 (L : Nat) (hL : L ≤ 100000) : ∃ C : Array Value, C.size = L * 2 ∧ ∀ w : World, (Instr.makeSlice 24 (.int .i64 (L : Int)) (.int .i64 (L : Int))).run Yba.prog w = .ok (.slice (some ⟨w.heap.size, 0, none⟩) L L) (w.alloc (.cells C 31)) := by
  obtain ⟨i0, hi, hz0, hz1, hz2⟩ := info_parts Yba.info31
  refine ⟨madeCells (Value.agg #[.string ⟨#[]⟩, .int .i64 0]).cells (L * 2), size_madeCells _ _, fun w => ?_⟩
  have := run_make (P := Yba.prog) w 24 31 i0 _ Yba.underlying24 hi hz0 .i64 .i64 L L (by omega) (Int.le_refl _) (by rw [hz2]; omega) (by omega)
  rw [hz1] at this
  simpa using this

theorem copy_ahead {w1 : World} {B1 b B g1 cp1 : Nat} {i s : Int} {C : Array Value} {l : List (ByteArray × Int)} (hB1 : w1.heap.size = B1) (he : Earn w1 b B i s (.slice (some ⟨g1, 0, none⟩) l.length cp1) l) (o : Obj) :
    ((w1.alloc (.cells C 31)).alloc o).heap[B1]? = some (.cells C 31 (0, 0)) ∧ ∀ j v, (flat l)[j]? = some v → ((w1.alloc (.cells C 31)).alloc o).cell? ((⟨g1, 0, none⟩ : Addr).add j) = some v := by
  have hg := he.own.lt g1 rfl
  refine ⟨?_, fun j v hv => ?_⟩
  · rw [Below.heap_alloc _ _ _ (by simp; omega), ← hB1]; exact heap_alloc_new w1 _
  · have hb : Below w1.heap.size w1 ((w1.alloc (.cells C 31)).alloc o) := ((Below.refl _ _).alloc (Nat.le_refl _) _).alloc (by simp) _
    have hadd : (⟨g1, 0, none⟩ : Addr).add j = ⟨g1, j, none⟩ := by unfold Addr.add; split <;> simp_all
    rw [hadd, hb.cell (p := ⟨g1, j, none⟩) hg.2]
    have := he.own.cells (g := g1) rfl j v hv
    rwa [hadd] at this

theorem copy_behind {w1 w2 : World} {B1 : Nat} {C : Array Value} {x : Value} (hB1 : w1.heap.size = B1) (hc : Chg (fun k => k = B1) ((w1.alloc (.cells C 31)).alloc (.cells #[x] 24)) w2)
    (hs : w2.heap.size = ((w1.alloc (.cells C 31)).alloc (.cells #[x] 24)).heap.size) : Below B1 w1 w2 ∧ w2.heap[B1 + 1]? = some (.cells #[x] 24 (0, 0)) ∧ w2.heap.size = B1 + 2 := by
  have hb : Below w1.heap.size w1 ((w1.alloc (.cells C 31)).alloc (.cells #[x] 24)) := ((Below.refl _ _).alloc (Nat.le_refl _) _).alloc (by simp) _
  rw [hB1] at hb
  refine ⟨hb.trans (hc.below (by simp; omega) (fun k hk => by omega)), ?_, by rw [hs]; simp; omega⟩
  rw [hc.block (B1 + 1) (by simp; omega) (by omega)]
  have := heap_alloc_new (w1.alloc (.cells C 31)) (.cells #[x] 24)
  have e : (w1.alloc (.cells C 31)).heap.size = B1 + 1 := by simp [hB1]
  rw [e] at this
  exact this

theorem addS_pos (l : List (ByteArray × Int)) (p : ByteArray) (a : Int) : 0 < (addS l p a).length := by
  cases l with
  | nil => simp [addS]
  | cons x r => unfold addS; split <;> simp

/-- The scene behind the one more call. -/
structure Scene (w3 w4 : World) (B B1 g' cp' : Nat) (l l' : List (ByteArray × Int)) (a A : Int) : Prop where
  earn : Earn w4 (B + 1) (B + 2) 0 0 (.slice (some ⟨g', 0, none⟩) l'.length cp') l'
  below : Below (B + 1) w3 w4
  am : w4.cell? ⟨B, 0, none⟩ = some (.int .i64 a)
  row : w4.heap[B1]? = some (.cells (flat l).toArray 31 (0, 0))
  bv : w4.cell? ⟨B1 + 1, 0, none⟩ = some (.slice (some ⟨B1, 0, none⟩) l.length l.length)
  atv : w4.cell? ⟨B1 + 2, 0, none⟩ = some (.int .i64 A)
  size : B1 + 3 ≤ w4.heap.size

theorem scene_of {w3 w4 : World} {B B1 : Nat} {v : Value} {l : List (ByteArray × Int)} {p : ByteArray} {a A : Int} (hz : w3.heap.size = B1 + 3) (hBB : B + 1 < B1) (hv : ∀ k, v.ownBlock = some k → B + 2 ≤ k ∧ k < B1) (hadd : Added w3 (B + 1) (B + 2) 0 0 v l p a w4)
    (h1 : w3.cell? ⟨B, 0, none⟩ = some (.int .i64 a)) (h2 : w3.heap[B1]? = some (.cells (flat l).toArray 31 (0, 0)))
    (h3 : w3.heap[B1 + 1]? = some (.cells #[.slice (some ⟨B1, 0, none⟩) l.length l.length] 24 (0, 0))) (h4 : w3.heap[B1 + 2]? = some (.cells #[.int .i64 A] 3 (0, 0))) :
    ∃ g' cp', Scene w3 w4 B B1 g' cp' l (addS l p a) a A := by
  obtain ⟨v', he, hc, _⟩ := hadd
  obtain ⟨g', cp', hv', _, _⟩ := he.own.form (addS_pos l p a)
  subst hv'
  have hk : ∀ k, k < w3.heap.size → k ≠ B + 1 → (B1 ≤ k ∨ k < B + 2) → w4.heap[k]? = w3.heap[k]? := fun k hk h1 h2 => hc.block k hk (fun h => by
    rcases h with h | h
    · exact h1 h
    · have := hv k h; omega)
  refine ⟨g', cp', he, hc.below (by omega) (fun k h => ?_), ?_, (hk B1 (by omega) (by omega) (by omega)).trans h2, ?_, ?_, by have := hc.size; omega⟩
  · rcases h with h | h
    · omega
    · have := hv k h; omega
  · rw [World.cell?_of_block (w := w3) (hk B (by omega) (by omega) (by omega))]; exact h1
  · exact cell_of_one ((hk (B1 + 1) (by omega) (by omega) (by omega)).trans h3)
  · exact cell_of_one ((hk (B1 + 2) (by omega) (by omega) (by omega)).trans h4)

theorem row_cells {w : World} {B1 : Nat} {l : List (ByteArray × Int)} (h : w.heap[B1]? = some (.cells (flat l).toArray 31 (0, 0))) (j : Nat) (hj : j < l.length) :
    w.cell? ⟨B1, j * 2, none⟩ = some (.string (l[j]).1) ∧ w.cell? ⟨B1, j * 2 + 1, none⟩ = some (.int .i64 (l[j]).2) := by
  have h1 := flat_even l j hj
  have h2 := flat_odd l j hj
  rw [cell_of_row w B1 _ _ _ _ h, cell_of_row w B1 _ _ _ _ h]
  simp [h1, h2]

theorem own_cells {w : World} {b B g' cp' : Nat} {i s : Int} {l : List (ByteArray × Int)} (h : Earn w b B i s (.slice (some ⟨g', 0, none⟩) l.length cp') l) (j : Nat) (hj : j < l.length) :
    w.cell? ⟨g', j * 2, none⟩ = some (.string (l[j]).1) ∧ w.cell? ⟨g', j * 2 + 1, none⟩ = some (.int .i64 (l[j]).2) := by
  rw [h.own.cellAt _ (by omega), h.own.cellAt _ (by omega)]
  exact ⟨flat_even l j hj, flat_odd l j hj⟩

theorem sup_is (B g cap : Nat) (i s : Int) (l : List (ByteArray × Int)) (n : Nat) (p : ByteArray) (E : Int) (w : World) (hn : l.length = n) (hE : supOf l p = E)
    (hown : w.ownsRow B 31 2 (.slice (some ⟨g, 0, none⟩) l.length cap) l.length (flat l)) (hlen : l.length ≤ 100000) :
    Calls Yba.prog 7 #[.agg #[.int .i64 i, .int .i64 s, .slice (some ⟨g, 0, none⟩) n cap], .string p] w fun e w' => e = .returned (.int .i64 E) ∧ Below w.heap.size w w' := by
  subst hn hE
  exact sup_row B g cap i s l p w hown hlen

set_option maxHeartbeats 4000000 in
set_option maxRecDepth 100000 in
theorem step_core (a : Int) (b2 o2 len2 cap2 b3 o3 len3 cap3 n : Nat) (q g : Nat → Int) (pk : Int) (w : World)
    (hn0 : 0 < n) (hn : (n = len2 ∧ n ≤ len3) ∨ (n = len3 ∧ n < len2)) (h2 : len2 ≤ 1024) (h3 : len3 ≤ 1024)
    (hq : ∀ k, k < n → w.cell? ⟨b2, o2 + k, none⟩ = some (.int .u8 (q k))) (hg : ∀ k, k < n → w.cell? ⟨b3, o3 + k, none⟩ = some (.int .i64 (g k)))
    (hb2 : b2 < w.heap.size) (hb3 : b3 < w.heap.size)
    (hqb : ∀ k, 0 ≤ q k ∧ q k ≤ 255) (hgb : ∀ k, -9223372036854775808 ≤ g k ∧ g k ≤ 9223372036854775807) (hpk0 : 0 ≤ pk) (hpk1 : pk ≤ 255) :
    Calls Yba.prog 4 #[.slice (some ⟨b2, o2, none⟩) len2 cap2, .slice (some ⟨b3, o3, none⟩) len3 cap3, .int .u8 pk, .int .i64 a] w fun e w' => e = .returned (.bool true) ∧ Below w.heap.size w w' := by
  obtain ⟨B, hB⟩ : ∃ B, w.heap.size = B := ⟨_, rfl⟩
  have HQ : Hid (∀ k, k < n → w.cell? ⟨b2, o2 + k, none⟩ = some (.int .u8 (q k))) := hq
  have HG : Hid (∀ k, k < n → w.cell? ⟨b3, o3 + k, none⟩ = some (.int .i64 (g k))) := hg
  have HQB : Hid (∀ k, 0 ≤ q k ∧ q k ≤ 255) := hqb
  have HGB : Hid (∀ k, -9223372036854775808 ≤ g k ∧ g k ≤ 9223372036854775807) := hgb
  clear hq hg hqb hgb
  have hd2 : decide ((1024 : Int) < (len2 : Int)) = false := by simp; omega
  have hd3 : decide ((1024 : Int) < (len3 : Int)) = false := by simp; omega
  have hd4 : n ≤ len3 → decide (len3 < n) = false := fun h => by simp; omega
  have HB : Hid (w.heap.size = B) := hB
  have HK2 : Hid (∀ k : Nat, k < n → (k : Int) < (len2 : Int)) := fun k hk => by omega
  have HK3 : Hid (∀ k : Nat, k < n → (k : Int) < (len3 : Int)) := fun k hk => by omega
  obtain ⟨w0, hw0⟩ : ∃ w0, w0 = w.alloc (.cells #[.int .i64 a] 2) := ⟨_, rfl⟩
  have HW0 := hide hw0
  have HZ0 : Hid (w0.heap.size = B + 1) := by rw [hw0]; show _ = _; simp [hB]
  have HC0 : Hid (w0.cell? ⟨B, 0, none⟩ = some (.int .i64 a)) := by rw [hw0]; show _ = _; rw [← hB]; simp
  have HB0 : Hid (Below B w w0) := by rw [hw0]; exact (Below.refl _ _).alloc (by omega) _
  clear hw0
  rcases hn with ⟨rfl, hn⟩ | ⟨rfl, hn⟩
  all_goals
    go_enter Yba.func4, Yba.ntmps4
    go_wp2
    go_loopw [11] (fun t wr => ∃ k : Nat, k ≤ n ∧ t = .int .i64 k ∧ Below (B + 1) w0 wr ∧ ∃ v, Earn wr (B + 1) (B + 2) 0 0 v (built (fun j => nm (q j)) g k)) (fun t _ => n - (intOf t).toNat)
    case atStart => exact ⟨0, Nat.zero_le _, rfl, by rw [← HW0.out]; exact (Below.refl _ _).alloc (by rw [HZ0.out]; omega) _, .slice none 0 0, ⟨by rw [← HW0.out, ← HZ0.out]; exact heap_alloc_new w0 _, World.ownsRow_nil _ _ _ _⟩⟩
    case round =>
      obtain ⟨k, hk, rfl, hw, v, he⟩ := hrel
      by_cases hlt : k < n
      · have c2 : wr.cell? ⟨b2, o2 + k, none⟩ = some (.int .u8 (q k)) := ((hw.cell (p := ⟨b2, o2 + k, none⟩) (by show b2 < B + 1; omega)).trans (HB0.out.cell (p := ⟨b2, o2 + k, none⟩) (by show b2 < B; omega))).trans (HQ.out k hlt)
        have c3 : wr.cell? ⟨b3, o3 + k, none⟩ = some (.int .i64 (g k)) := ((hw.cell (p := ⟨b3, o3 + k, none⟩) (by show b3 < B + 1; omega)).trans (HB0.out.cell (p := ⟨b3, o3 + k, none⟩) (by show b3 < B; omega))).trans (HG.out k hlt)
        have hq0 := (HQB.out k).1
        have hq1 := (HQB.out k).2
        have hl2 : (0 : Int) ≤ (k : Int) := by omega
        have hl4 := HK2.out k hlt
        have hl5 := HK3.out k hlt
        have hll := built_length_le (fun j => nm (q j)) g k
        have hsz : B + 2 ≤ wr.heap.size := by have := lt_of_block he.blk; omega
        go_wp2
        go_region_held3 (fun w' => w'.cell? ⟨b2, o2 + k, none⟩ = some (.int .u8 (q k)) ∧ w'.cell? ⟨b3, o3 + k, none⟩ = some (.int .i64 (g k))) (go_keep) (first | (go_at_call 6; refine (name_any (q k) hq0 hq1 _).mono ?_; rintro e w' ⟨rfl, rfl⟩) | (go_at_call 5; refine (add_any (B + 1) (B + 2) 0 0 v (built (fun j => nm (q j)) g k) (nm (q k)) (g k) _ he.drew (by omega) hsz (by omega)).mono ?_; rintro e w' ⟨rfl, hadd⟩; obtain ⟨hw', he'⟩ := rel_add HZ0.out hw.drew he.drew hadd; have c2' : w'.cell? ⟨b2, o2 + k, none⟩ = some (.int .u8 (q k)) := ((hw'.cell (p := ⟨b2, o2 + k, none⟩) (by show b2 < B + 1; omega)).trans (HB0.out.cell (p := ⟨b2, o2 + k, none⟩) (by show b2 < B; omega))).trans (HQ.out k hlt); have c3' : w'.cell? ⟨b3, o3 + k, none⟩ = some (.int .i64 (g k)) := ((hw'.cell (p := ⟨b3, o3 + k, none⟩) (by show b3 < B + 1; omega)).trans (HB0.out.cell (p := ⟨b3, o3 + k, none⟩) (by show b3 < B; omega))).trans (HG.out k hlt)))
        go_wp2
        go_roundw
        case rel => exact ⟨k + 1, by omega, by go_num, hw', he'⟩
        case measure => simp [intOf]; omega
      · have hkn : n = k := by omega
        subst hkn
        obtain ⟨w1, hw1⟩ : ∃ w1, w1 = wr := ⟨_, rfl⟩
        subst hw1
        obtain ⟨B1, hB1⟩ : ∃ B1, w1.heap.size = B1 := ⟨_, rfl⟩
        have HB1 : Hid (w1.heap.size = B1) := hB1
        have hBB : B + 1 < B1 := by have := lt_of_block he.blk; omega
        have hll := built_length_le (fun j => nm (q j)) g n
        have hlq := built_eq (fun j => nm (q j)) g HGB.out n
        have hnd := names_nodup (fun j => nm (q j)) n
        have hpos : 0 < (built (fun j => nm (q j)) g n).length := by rw [hlq]; simpa using names_pos (fun j => nm (q j)) n hn0
        have hund := hide (map_unique (names (fun j => nm (q j)) n) (fun x => sumOf (fun j => nm (q j)) g x n) hnd)
        rw [← hlq] at hund
        clear hlq hnd
        generalize built (fun j => nm (q j)) g n = l at *
        obtain ⟨g1, cp1, hv1, hg1, hg1s⟩ := he.own.form hpos
        subst hv1
        have c22 : w1.cell? ⟨B + 1, 2, none⟩ = some (.slice (some ⟨g1, 0, none⟩) l.length cp1) := by simp [World.cell?, he.blk]
        obtain ⟨C, hC, hmk⟩ := made31 l.length (by omega)
        obtain ⟨i31, hi, hz0, hz1, hz2⟩ := info_parts Yba.info31
        have HC := hide hC
        clear hC
        have he1 := hide he
        clear he
        have c22b : ∀ o o' : Obj, ((w1.alloc o).alloc o').cell? ⟨B + 1, 2, none⟩ = some (.slice (some ⟨g1, 0, none⟩) l.length cp1) := fun o o' => by rw [World.cell?_alloc_past _ _ _ (by simp; omega), World.cell?_alloc_past _ _ _ (by omega)]; exact c22
        have hca := fun o => copy_ahead (C := C) HB1.out he1.out o
        have HCA := hide hca
        clear hca
        have hfl := flat_length l
        have HFL := hide hfl
        clear hfl
        go_wp2_with (refine wpList_copy_wide rfl (.tmp 54) (.tmp 56) 24 24 rfl 31 i31 Yba.underlying24 hi B1 l.length l.length ⟨g1, 0, none⟩ cp1 rfl rfl C 31 (HCA.out _).1 (flat l) (by rw [hz1]; exact HFL.out) (HC.out.trans HFL.out.symm) (HCA.out _).2 (flat_oneCell l) ?_; intro w2 hrow hchg hsz2)
        obtain ⟨hb12, hbv, hz⟩ := copy_behind HB1.out hchg hsz2
        clear hchg hsz2
        refine (name_any pk hpk0 hpk1 _).mono ?_
        rintro e w' ⟨rfl, rfl⟩
        generalize nm pk = p
        have HR2 := hide hrow
        have HBV2 := hide hbv
        have c2v := cell_of_one hbv
        clear hrow hbv
        clear hmk c22 c22b
        go_wp2
        go_loopw [62] (fun t wr => ∃ (k : Nat) (A : Int), k ≤ l.length ∧ t = .int .i64 k ∧ At l p k A ∧ Below (B1 + 2) w2 wr ∧ wr.heap.size = B1 + 3 ∧ wr.heap[B1 + 2]? = some (.cells #[.int .i64 A] 3 (0, 0))) (fun t _ => l.length - (intOf t).toNat)
        case atStart => exact ⟨0, -1, Nat.zero_le _, rfl, At.zero l p, (Below.refl _ _).alloc (by omega) _, by simp [hz], by rw [← hz]; exact heap_alloc_new w2 _⟩
        case round =>
          obtain ⟨k, A, hk, rfl, hat, hb23, hz3, hav⟩ := hrel
          have HAT := hide hat
          clear hat
          have hbv3 := (hb23.block (B1 + 1) (by omega)).trans HBV2.out
          have hrw3 := (hb23.block B1 (by omega)).trans HR2.out
          have c3v := cell_of_one hbv3
          have cav := cell_of_one hav
          have fav := free_of_one hav
          by_cases hlt : k < l.length
          · have g0 := (row_cells hrw3 k hlt).1
            have HBV3 := hide hbv3
            have HR3 := hide hrw3
            have HAV := hide hav
            clear hbv3 hrw3 hav
            by_cases hp : (l[k]).1 = p
            · have ht : ((l[k]).1.toList == p.toList) = true := by rw [hp]; simp
              have HP := hide hp
              clear hp
              go_wp2
              go_roundw
              case rel => exact ⟨k + 1, k, by omega, by go_num, At.hit l p k hlt HP.out, hb23.setCell (by simp) _, by simp [World.setCell, hz3], one_setCell HAV.out⟩
              case measure => simp [intOf]; omega
            · have ht : ((l[k]).1.toList == p.toList) = false := by simp only [beq_eq_false_iff_ne]; exact fun h => hp (str_eq h)
              have HP := hide hp
              clear hp
              go_wp2
              go_roundw
              case rel => exact ⟨k + 1, A, by omega, by go_num, HAT.out.miss hlt HP.out, hb23, hz3, HAV.out⟩
              case measure => simp [intOf]; omega
          · have hkn : l.length = k := by omega
            subst hkn
            obtain ⟨w3, hw3⟩ : ∃ w3, w3 = wr := ⟨_, rfl⟩
            subst hw3
            have hb13 : Below B1 w1 w3 := hb12.trans (hb23.mono (by omega))
            have he3 := he1.out.below hb13 HB1.out
            have cam : w3.cell? ⟨B, 0, none⟩ = some (.int .i64 a) := (hb13.cell (p := ⟨B, 0, none⟩) (by show B < B1; omega)).trans ((hw.cell (p := ⟨B, 0, none⟩) (by show B < B + 1; omega)).trans HC0.out)
            have HSC := hide (fun w4 (h : Added w3 (B + 1) (B + 2) 0 0 (.slice (some ⟨g1, 0, none⟩) l.length cp1) l p a w4) => scene_of (v := .slice (some ⟨g1, 0, none⟩) l.length cp1) hz3 hBB (fun k hk => by simp [Value.ownBlock] at hk; subst hk; omega) h cam hrw3 hbv3 hav)
            have hlen : l.length ≤ 100000 := by omega
            have hbw3 : Below B w w3 := HB0.out.trans ((hw.mono (by omega)).trans (hb13.mono (by omega)))
            have HBW3 := hide hbw3
            clear hbw3 hb13 hb12 hb23 hw hbv3 hrw3 hav c3v
            rcases HAT.out with ⟨hA, hno⟩ | ⟨m, hm1, hA, hm, hmp⟩
            · subst hA
              have HL' := hide (addS_miss l p a (fun j hj => hno j hj hj))
              have HE := hide (supOf_hit (l ++ [(p, a)]) p l.length (by simp) (fun j hj hjl => by rw [List.getElem_append_left hjl]; exact hno j hjl hjl) (by simp))
              rw [List.getElem_append_right (Nat.le_refl _)] at HE
              simp only [Nat.sub_self, List.getElem_cons_zero] at HE
              clear hno HAT
              go_wp2_with fail
              refine (add_any (B + 1) (B + 2) 0 0 _ l p a _ he3 (by omega) (by omega) hlen).mono ?_
              rintro e w4 ⟨rfl, hadd⟩
              obtain ⟨g', cp', sc⟩ := HSC.out w4 hadd
              clear hadd he3 HSC cam
              rw [HL'.out] at sc
              have c4am := sc.am
              have c4bv := sc.bv
              have c4at := sc.atv
              have c40 : w4.cell? ⟨B + 1, 0, none⟩ = some (.int .i64 0) := by simp [World.cell?, sc.earn.blk]
              have c41 : w4.cell? ⟨B + 1, 1, none⟩ = some (.int .i64 0) := by simp [World.cell?, sc.earn.blk]
              have c42 : w4.cell? ⟨B + 1, 2, none⟩ = some (.slice (some ⟨g', 0, none⟩) (l.length + 1) cp') := by simp [World.cell?, sc.earn.blk]
              have hg4 := (sc.earn.own.lt g' rfl).2
              obtain ⟨N4, hN4⟩ : ∃ N4, w4.heap.size = N4 := ⟨_, rfl⟩
              have HN4 := hide hN4
              have hz4 : B1 + 3 ≤ N4 := by have := sc.size; omega
              have hBN : B < N4 := by omega
              have hBN1 : B + 1 < N4 := by omega
              have hBN2 : B1 + 1 < N4 := by omega
              have hBN3 : B1 + 2 < N4 := by omega
              rw [hN4] at hg4
              have HBW4 : Hid (Below B w w4) := HBW3.out.trans (sc.below.mono (by omega))
              have HROW := hide (fun j hj => row_cells sc.row j hj)
              have HEARN := hide sc.earn
              have hS : ∀ j (hj : j < l.length), w4.cell? ⟨g', j * 2, none⟩ = some (.string (l[j]).1) ∧ w4.cell? ⟨g', j * 2 + 1, none⟩ = some (.int .i64 (l[j]).2) := fun j hj => by
                have := own_cells sc.earn j (by simp; omega)
                rwa [List.getElem_append_left hj] at this
              have HS := hide hS
              clear hS
              have hL := own_cells sc.earn l.length (by simp)
              rw [List.getElem_append_right (Nat.le_refl _)] at hL
              simp only [Nat.sub_self, List.getElem_cons_zero] at hL
              have hL0 := hL.1
              have hL1 := hL.2
              clear hL sc
              go_wp2
              go_loopw [110] (fun t wr => ∃ j : Nat, j ≤ l.length ∧ t = .int .i64 j ∧ Below N4 w4 wr) (fun t _ => l.length - (intOf t).toNat)
              case atStart => exact ⟨0, Nat.zero_le _, rfl, (Below.refl _ _).alloc (by omega) _⟩
              case round =>
                obtain ⟨j, hj, rfl, hbr⟩ := hrel
                have d4am := (hbr.cell (p := ⟨B, 0, none⟩) hBN).trans c4am
                have d4bv := (hbr.cell (p := ⟨B1 + 1, 0, none⟩) hBN2).trans c4bv
                have d4at := (hbr.cell (p := ⟨B1 + 2, 0, none⟩) hBN3).trans c4at
                have d42 := (hbr.cell (p := ⟨B + 1, 2, none⟩) hBN1).trans c42
                by_cases hlt : j < l.length
                · have r0 := (hbr.cell (p := ⟨B1, j * 2, none⟩) (by show B1 < N4; omega)).trans (HROW.out j hlt).1
                  have r1 := (hbr.cell (p := ⟨B1, j * 2 + 1, none⟩) (by show B1 < N4; omega)).trans (HROW.out j hlt).2
                  have s0 := (hbr.cell (p := ⟨g', j * 2, none⟩) hg4).trans (HS.out j hlt).1
                  have s1 := (hbr.cell (p := ⟨g', j * 2 + 1, none⟩) hg4).trans (HS.out j hlt).2
                  have l0 : (0 : Int) ≤ (j : Int) := by omega
                  have l1 : (j : Int) < (l.length : Int) := by omega
                  have l2 : (j : Int) < ((l.length + 1 : Nat) : Int) := by omega
                  have hja : ((j : Int) == -1) = false := beq_eq_false_iff_ne.2 (by omega)
                  go_wp2
                  go_quiet (fail)
                  go_wp2
                  go_roundw
                  case rel => exact ⟨j + 1, by omega, by go_num, below_drewN hbr _⟩
                  case measure => simp [intOf]; omega
                · have d40 := (hbr.cell (p := ⟨B + 1, 0, none⟩) hBN1).trans c40
                  have d41 := (hbr.cell (p := ⟨B + 1, 1, none⟩) hBN1).trans c41
                  have her := HEARN.out.below hbr HN4.out
                  have hNr : N4 ≤ wr.heap.size := by have := hbr.size; omega
                  obtain ⟨wz, hwz⟩ : ∃ wz, wz = wr := ⟨_, rfl⟩
                  subst hwz
                  go_wp2_with fail
                  refine (sup_is (B + 2) g' cp' 0 0 _ _ p a _ (by simp) HE.out her.own (by simp; omega)).mono ?_
                  rintro e w5 ⟨rfl, hb5⟩
                  have e4am := (hb5.cell (p := ⟨B, 0, none⟩) (by show B < wz.heap.size; omega)).trans d4am
                  have e4bv := (hb5.cell (p := ⟨B1 + 1, 0, none⟩) (by show B1 + 1 < wz.heap.size; omega)).trans d4bv
                  have e4at := (hb5.cell (p := ⟨B1 + 2, 0, none⟩) (by show B1 + 2 < wz.heap.size; omega)).trans d4at
                  go_wp2_with fail
                  refine (clo_neg _ _ _ a _ e4at e4am).mono ?_
                  rintro e w6 ⟨rfl, hb6⟩
                  go_wp2
                  go_ret
                  exact ⟨by simp, by rw [HB.out]; exact HBW4.out.trans ((hbr.mono (by omega)).trans ((hb5.mono (by omega)).trans (hb6.mono (by have := hb5.size; omega))))⟩
            · subst hA
              have HL' := hide (addS_hit l p a m hm (fun j hj => fun h => absurd (hund.out j m (by omega) hm (h.trans hmp.symm)) (by omega)) hmp)
              have HE := hide (supOf_hit (l.set m ((l[m]).1, wrap64 ((l[m]).2 + a))) p m (by simpa using hm) (fun j hj hjl => by
                rw [List.getElem_set_ne (by omega)]
                exact fun h => absurd (hund.out j m (by omega) hm (h.trans hmp.symm)) (by omega)) (by simp [hmp]))
              rw [List.getElem_set_self] at HE
              have HMP := hide hmp
              clear HAT hmp
              go_wp2_with fail
              refine (add_any (B + 1) (B + 2) 0 0 _ l p a _ he3 (by omega) (by omega) hlen).mono ?_
              rintro e w4 ⟨rfl, hadd⟩
              obtain ⟨g', cp', sc⟩ := HSC.out w4 hadd
              clear hadd he3 HSC cam
              rw [HL'.out] at sc
              have c4am := sc.am
              have c4bv := sc.bv
              have c4at := sc.atv
              have c40 : w4.cell? ⟨B + 1, 0, none⟩ = some (.int .i64 0) := by simp [World.cell?, sc.earn.blk]
              have c41 : w4.cell? ⟨B + 1, 1, none⟩ = some (.int .i64 0) := by simp [World.cell?, sc.earn.blk]
              have c42 : w4.cell? ⟨B + 1, 2, none⟩ = some (.slice (some ⟨g', 0, none⟩) l.length cp') := by simp [World.cell?, sc.earn.blk]
              have hg4 := (sc.earn.own.lt g' rfl).2
              obtain ⟨N4, hN4⟩ : ∃ N4, w4.heap.size = N4 := ⟨_, rfl⟩
              have HN4 := hide hN4
              have hz4 : B1 + 3 ≤ N4 := by have := sc.size; omega
              have hBN : B < N4 := by omega
              have hBN1 : B + 1 < N4 := by omega
              have hBN2 : B1 + 1 < N4 := by omega
              have hBN3 : B1 + 2 < N4 := by omega
              rw [hN4] at hg4
              have HBW4 : Hid (Below B w w4) := HBW3.out.trans (sc.below.mono (by omega))
              have HROW := hide (fun j hj => row_cells sc.row j hj)
              have HEARN := hide sc.earn
              have hS : ∀ j (hj : j < l.length), w4.cell? ⟨g', j * 2, none⟩ = some (.string (l[j]).1) ∧ w4.cell? ⟨g', j * 2 + 1, none⟩ = some (.int .i64 (if j = m then wrap64 ((l[m]).2 + a) else (l[j]).2)) := fun j hj => by
                have := own_cells sc.earn j (by simpa using hj)
                by_cases e : j = m
                · subst e
                  rw [List.getElem_set_self] at this
                  simpa using this
                · rw [List.getElem_set_ne (by omega)] at this
                  simpa [e] using this
              have HS := hide hS
              clear hS sc
              go_wp2
              go_loopw [110] (fun t wr => ∃ j : Nat, j ≤ l.length ∧ t = .int .i64 j ∧ Below N4 w4 wr) (fun t _ => l.length - (intOf t).toNat)
              case atStart => exact ⟨0, Nat.zero_le _, rfl, Below.refl _ _⟩
              case round =>
                obtain ⟨j, hj, rfl, hbr⟩ := hrel
                have d4am := (hbr.cell (p := ⟨B, 0, none⟩) hBN).trans c4am
                have d4bv := (hbr.cell (p := ⟨B1 + 1, 0, none⟩) hBN2).trans c4bv
                have d4at := (hbr.cell (p := ⟨B1 + 2, 0, none⟩) hBN3).trans c4at
                have d42 := (hbr.cell (p := ⟨B + 1, 2, none⟩) hBN1).trans c42
                by_cases hlt : j < l.length
                · have r0 := (hbr.cell (p := ⟨B1, j * 2, none⟩) (by show B1 < N4; omega)).trans (HROW.out j hlt).1
                  have r1 := (hbr.cell (p := ⟨B1, j * 2 + 1, none⟩) (by show B1 < N4; omega)).trans (HROW.out j hlt).2
                  have s0 := (hbr.cell (p := ⟨g', j * 2, none⟩) hg4).trans (HS.out j hlt).1
                  have s1 := (hbr.cell (p := ⟨g', j * 2 + 1, none⟩) hg4).trans (HS.out j hlt).2
                  have l0 : (0 : Int) ≤ (j : Int) := by omega
                  have l1 : (j : Int) < (l.length : Int) := by omega
                  have l2 : (j : Int) < ((l.length : Nat) : Int) := by omega
                  by_cases hjm : j = m
                  · subst hjm
                    rw [if_pos rfl] at s1
                    go_wp2
                    go_quiet (fail)
                    go_wp2
                    go_roundw
                    case rel => exact ⟨j + 1, by omega, by go_num, below_drewN hbr _⟩
                    case measure => simp [intOf]; omega
                  · rw [if_neg hjm] at s1
                    have hja : ((j : Int) == (m : Int)) = false := beq_eq_false_iff_ne.2 (by omega)
                    go_wp2
                    go_quiet (fail)
                    go_wp2
                    go_roundw
                    case rel => exact ⟨j + 1, by omega, by go_num, below_drewN hbr _⟩
                    case measure => simp [intOf]; omega
                · have d40 := (hbr.cell (p := ⟨B + 1, 0, none⟩) hBN1).trans c40
                  have d41 := (hbr.cell (p := ⟨B + 1, 1, none⟩) hBN1).trans c41
                  have her := HEARN.out.below hbr HN4.out
                  have hNr : N4 ≤ wr.heap.size := by have := hbr.size; omega
                  obtain ⟨wz, hwz⟩ : ∃ wz, wz = wr := ⟨_, rfl⟩
                  subst hwz
                  go_wp2_with fail
                  refine (sup_is (B + 2) g' cp' 0 0 _ _ p (wrap64 ((l[m]).2 + a)) _ (by simp) HE.out her.own (by simp; omega)).mono ?_
                  rintro e w5 ⟨rfl, hb5⟩
                  have e4am := (hb5.cell (p := ⟨B, 0, none⟩) (by show B < wz.heap.size; omega)).trans d4am
                  have e4bv := (hb5.cell (p := ⟨B1 + 1, 0, none⟩) (by show B1 + 1 < wz.heap.size; omega)).trans d4bv
                  have e4at := (hb5.cell (p := ⟨B1 + 2, 0, none⟩) (by show B1 + 2 < wz.heap.size; omega)).trans d4at
                  have r1 := (hb5.cell (p := ⟨B1, m * 2 + 1, none⟩) (by show B1 < wz.heap.size; omega)).trans ((hbr.cell (p := ⟨B1, m * 2 + 1, none⟩) (by show B1 < N4; omega)).trans (HROW.out m hm).2)
                  go_wp2_with fail
                  refine (clo_pos _ _ _ _ m l.length l.length a (l[m]).2 _ hm e4at e4am e4bv r1).mono ?_
                  rintro e w6 ⟨rfl, hb6⟩
                  go_wp2
                  go_ret
                  exact ⟨by simp, by rw [HB.out]; exact HBW4.out.trans ((hbr.mono (by omega)).trans ((hb5.mono (by omega)).trans (hb6.mono (by have := hb5.size; omega))))⟩
end Go.Proofs.Ybulkbyqg
