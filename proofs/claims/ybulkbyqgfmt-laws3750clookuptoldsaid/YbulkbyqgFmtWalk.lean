import Derived.Test.YbulkbyqgFmtFacts
import Derived.Test.YbulkbyqgFmtPlain
import Derived.Deep.RegionHeld3
import Derived.Deep.DrawnRows
namespace Go.Proofs.YbulkbyqgFmt
open Go.RowKit Go.Extern.Stop Go.Stop Go.Extern Go.Maps Go.WideMaps
attribute [local go_sem ↓] Go.wp_at_zero Go.wp_at_succ

theorem hide {p : Prop} (h : p) : Hid p := h
theorem make_map (k : Int) (w : World) : (Instr.makeMap 23 (some (.int .i64 k))).run Ybaf.prog w = .ok (.map (some w.heap.size)) (w.alloc (.map #[] 0)) := by kernel_rfl
theorem str_eq {a b : ByteArray} (h : a.toList = b.toList) : a = b := by
  rw [ByteArray.toList_eq, ByteArray.toList_eq] at h
  cases a; cases b
  simp only [ByteArray.mk.injEq]
  exact Array.toList_inj.1 h

/-- The cells of entry k. -/
def Ent (w : World) (b o : Nat) (N : Nat → ByteArray) (r f t : Nat → Int) (k : Nat) : Prop :=
  w.cell? ⟨b, o + k * 4, none⟩ = some (.string (N k)) ∧ w.cell? ⟨b, o + k * 4 + 1, none⟩ = some (.int .i64 (r k)) ∧ w.cell? ⟨b, o + k * 4 + 2, none⟩ = some (.int .i64 (f k)) ∧ w.cell? ⟨b, o + k * 4 + 3, none⟩ = some (.int .i64 (t k))
theorem Ent.below {w w' : World} {b o B : Nat} {N : Nat → ByteArray} {r f t : Nat → Int} {k : Nat} (h : Ent w b o N r f t k) (hb : Below B w w') (hB : b < B) : Ent w' b o N r f t k :=
  ⟨(hb.cell (p := ⟨b, o + k * 4, none⟩) hB).trans h.1, (hb.cell (p := ⟨b, o + k * 4 + 1, none⟩) hB).trans h.2.1, (hb.cell (p := ⟨b, o + k * 4 + 2, none⟩) hB).trans h.2.2.1, (hb.cell (p := ⟨b, o + k * 4 + 3, none⟩) hB).trans h.2.2.2⟩

theorem round_map {w wr w' : World} {B k : Nat} {D : DataW Value} {s : ByteArray} {r f t : Int} {kl : Lit} (hB : w.heap.size = B) (hw : Below B w wr) (hown : wr.ownsMap Ybaf.prog 9 R B k D) (hg : wr.drew.grownBy w' none) (hk : k < maxLen) (hkey : keyOf Ybaf.prog 9 (.string s) = some kl) :
    ∃ w2, (Instr.mapUpdate 23 (.map (some B)) (.string s) (.agg #[.string s, .int .i64 r, .int .i64 f, .int .i64 t])).run Ybaf.prog w' = .ok () w2 ∧ Below B w w' ∧ Below B w w2 ∧ w2.ownsMap Ybaf.prog 9 R B (k + 1) (D.put kl (.held (.agg #[.string s, .int .i64 r, .int .i64 f, .int .i64 t]))) := by
  have hs := hw.size
  have hw' : Below B w w' := hw.drew.grown hg (by show B ≤ wr.heap.size; omega) (fun k hk => by simp at hk)
  obtain ⟨w2, h1, h2, h3⟩ := (hown.drew.kept hg (by simp)).update (val := .agg #[.string s, .int .i64 r, .int .i64 f, .int .i64 t]) law Ybaf.underlying23 hk hkey rfl
  exact ⟨w2, h1, hw', hw'.grown h3 (by have := hw'.size; omega) (fun k hk => by simp at hk; omega), h2⟩

set_option maxHeartbeats 2000000 in
set_option maxRecDepth 100000 in
theorem look_core (F : Interp) (b o n cap : Nat) (N : Nat → ByteArray) (r f t : Nat → Int) (nam : ByteArray) (pk : Int) (w : World) (hF : F.answers w.tape) (hn0 : 0 < n) (hn : n ≤ 1024) (hnam : nam.size ≤ maxLen) (hN : ∀ k, k < n → (N k).size ≤ maxLen)
    (he : ∀ k, k < n → Ent w b o N r f t k) (hb : b < w.heap.size) (hp0 : 0 ≤ pk) (hp1 : pk ≤ 255) :
    Calls Ybaf.prog 3 #[.slice (some ⟨b, o, none⟩) n cap, .string nam, .int .u8 pk] w fun e w' => e = .returned (.bool true) ∧ Below w.heap.size w w' := by
  obtain ⟨B, hB⟩ : ∃ B, w.heap.size = B := ⟨_, rfl⟩
  have HB := hide hB
  have HE := hide he
  have HN := hide hN
  have HNAM := hide hnam
  clear he hN hnam
  have hmm := make_map
  have hd : decide ((1024 : Int) < (n : Int)) = false := by simp; omega
  go_enter Ybaf.func3, Ybaf.ntmps3
  go_wp2
  go_loopw [8] (fun t' wr => ∃ k : Nat, k ≤ n ∧ t' = .int .i64 k ∧ Below B w wr ∧ wr.ownsMap Ybaf.prog 9 R B k (Dm N (pv N r f t) k)) (fun t' _ => n - (intOf t').toNat)
  case atStart => exact ⟨0, Nat.zero_le _, rfl, (Below.refl _ _).alloc (by omega) _, by have := World.ownsMap_made w Ybaf.prog 9 R; rw [HB.out] at this; exact this⟩
  case round =>
    obtain ⟨k, hk, rfl, hw, hown⟩ := hrel
    by_cases hlt : k < n
    · obtain ⟨c0, c1, c2, c3⟩ := (HE.out k hlt).below hw (by omega)
      have l0 : (0 : Int) ≤ (k : Int) := by omega
      have l1 : (k : Int) < (n : Int) := by omega
      have HKEY := hide (keyOf_string_mk (P := Ybaf.prog) Ybaf.underlying9 (HN.out k hlt))
      go_wp2
      go_region_held3 (fun w' => w'.cell? ⟨b, o + k * 4, none⟩ = some (.string (N k)) ∧ w'.cell? ⟨b, o + k * 4 + 1, none⟩ = some (.int .i64 (r k)) ∧ w'.cell? ⟨b, o + k * 4 + 2, none⟩ = some (.int .i64 (f k)) ∧ w'.cell? ⟨b, o + k * 4 + 3, none⟩ = some (.int .i64 (t k))) (go_keep) (first | (go_at_call 4; refine (prog_any (N k) (r k) (f k) (t k) _).mono ?_; rintro e w' ⟨rfl, hg⟩; obtain ⟨w2, hrun, hw', hw2, hown2⟩ := round_map (r := r k) (f := f k) (t := t k) HB.out hw hown hg (by unfold maxLen; omega) HKEY.out; obtain ⟨d0, d1, d2, d3⟩ := (HE.out k hlt).below hw' (by omega); obtain ⟨e0, e1, e2, e3⟩ := (HE.out k hlt).below hw2 (by omega)))
      go_wp2
      go_roundw
      case rel => exact ⟨k + 1, by omega, by go_num, hw2, hown2⟩
      case measure => first | (simp [intOf]; omega) | simp [intOf]
    · have hkn : n = k := by omega
      subst hkn
      obtain ⟨w1, hw1⟩ : ∃ w1, w1 = wr := ⟨_, rfl⟩
      subst hw1
      obtain ⟨B1, hB1⟩ : ∃ B1, w1.heap.size = B1 := ⟨_, rfl⟩
      have HB1 := hide hB1
      have hBB : B < B1 := by have := hown.lt; omega
      have HE1 := hide (fun k hk => (HE.out k hk).below hw (by omega))
      have hF1 : F.answers w1.tape := by rw [hw.tape]; exact hF
      have HF1 := hide hF1
      have HOWN := hide hown
      clear hF1 hF hown hmm
      by_cases hpar : pk % 2 = 0
      · have ht : (pk % 2 == 0) = true := by simp [hpar]
        obtain ⟨m, hm⟩ : ∃ m : Nat, pk / 2 % (n : Int) = (m : Int) := ⟨(pk / 2 % (n : Int)).toNat, by rw [Int.toNat_of_nonneg]; exact Int.emod_nonneg _ (by omega)⟩
        have hmn : (m : Int) < (n : Int) := by rw [← hm]; exact Int.emod_lt_of_pos _ (by omega)
        have hm0 : (0 : Int) ≤ (m : Int) := by omega
        have cm := (HE1.out m (by omega)).1
        have HKY := hide (keyOf_string_mk (P := Ybaf.prog) Ybaf.underlying9 (HN.out m (by omega)))
        generalize N m = ky at cm HKY
        go_wp2
        go_loop [10, 12] (fun fd i => fd = .bool false ∧ ∃ k : Nat, k ≤ n ∧ i = .int .i64 ((k : Int) - 1) ∧ ∀ j, k ≤ j → j < n → ¬ N j = ky) (fun _ i => (intOf i + 1).toNat)
        case atStart => exact ⟨rfl, n, Nat.le_refl _, rfl, fun j h1 h2 => absurd h2 (by omega)⟩
        case round =>
          obtain ⟨rfl, k, hk, rfl, hno⟩ := hrel
          have HNO := hide hno
          clear hno
          cases k with
          | zero =>
            have HL := hide (lastOf_skip N ky n 0 (by omega) HNO.out)
            have HH := hide (Dm_none N (pv N r f t) ky n HL.out)
            have hown2 : ∀ o, (w1.alloc o).ownsMap Ybaf.prog 9 R B n (Dm N (pv N r f t) n) := fun o => HOWN.out.alloc o
            have HOWN2 := hide hown2
            clear hown2
            go_wp2_with (at_len; refine wpList_len_own _ rfl _ 23 rfl 9 27 Ybaf.underlying23 R B n (Dm N (pv N r f t) n) rfl (HOWN2.out _) ?_)
            refine (named_miss F ky B n (Dm N (pv N r f t) n) _ _ (by exact HF1.out) (HOWN2.out _) HKY.out HH.out).mono ?_
            rintro e w5 ⟨⟨b', rfl⟩, hg5⟩
            have hown5 := (HOWN2.out _).kept hg5 (by simp)
            have HOWN5 := hide hown5
            have hb5 : Below B w w5 := (hw.alloc (by omega) _).grown hg5 (by simp; omega) (fun k hk => by simp at hk)
            have HB5 := hide hb5
            have hs5 : B1 + 1 ≤ w5.heap.size := by have := hg5.size; simp at this; omega
            clear hown5 hg5 hb5
            unfold zeroV
            go_wp2_with (at_len; refine wpList_len_own _ rfl _ 23 rfl 9 27 Ybaf.underlying23 R B n (Dm N (pv N r f t) n) rfl (HOWN5.out.alloc _) ?_)
            go_ret
            exact ⟨rfl, by rw [HB.out]; exact HB5.out.alloc (by omega) _⟩
          | succ k =>
            rw [show (((k + 1 : Nat) : Int) - 1) = (k : Int) from by omega]
            obtain ⟨c0, c1, c2, c3⟩ := HE1.out k (by omega)
            have l0 : (0 : Int) ≤ (k : Int) := by omega
            have l1 : (k : Int) < (n : Int) := by omega
            have hbB1 : b < B1 := by omega
            by_cases hp : N k = ky
            · have ht2 : ((N k).toList == ky.toList) = true := by rw [hp]; simp
              have HL := hide (lastOf_hit N ky n k (by omega) (fun j h1 h2 => HNO.out j (by omega) h2) hp)
              have HD := hide (Dm_some N (pv N r f t) ky (.held zeroV) n k HL.out)
              clear hp
              go_wp2_with fail
              refine (prog_any (N k) (r k) (f k) (t k) _).mono ?_
              rintro e w3 ⟨rfl, hg3⟩
              have hb3 : w3.heap[B1]? = some (.cells #[.string ⟨#[]⟩, .int .i64 0, .int .i64 0, .int .i64 0] 27 (0, 0)) := by
                rw [hg3.block B1 (by simp; omega) (by simp), ← HB1.out]
                exact heap_alloc_new w1 _
              have k0 : w3.cell? ⟨B1, 0, none⟩ = some (.string ⟨#[]⟩) := by simp [World.cell?, hb3]
              have k1 : w3.cell? ⟨B1, 1, none⟩ = some (.int .i64 0) := by simp [World.cell?, hb3]
              have k2 : w3.cell? ⟨B1, 2, none⟩ = some (.int .i64 0) := by simp [World.cell?, hb3]
              have k3 : w3.cell? ⟨B1, 3, none⟩ = some (.int .i64 0) := by simp [World.cell?, hb3]
              have f0 : w3.frozen? ⟨B1, 0, none⟩ = false := by simp [World.frozen?, hb3]
              have f1 : w3.frozen? ⟨B1, 1, none⟩ = false := by simp [World.frozen?, hb3]
              have f2 : w3.frozen? ⟨B1, 2, none⟩ = false := by simp [World.frozen?, hb3]
              have f3 : w3.frozen? ⟨B1, 3, none⟩ = false := by simp [World.frozen?, hb3]
              obtain ⟨w4, hw4⟩ : ∃ w4, w4 = (((w3.setCell ⟨B1, 0, none⟩ (.string (N k))).setCell ⟨B1, 1, none⟩ (.int .i64 (r k))).setCell ⟨B1, 2, none⟩ (.int .i64 (f k))).setCell ⟨B1, 3, none⟩ (.int .i64 (t k)) := ⟨_, rfl⟩
              have hown3 := (HOWN.out.alloc (.cells #[.string ⟨#[]⟩, .int .i64 0, .int .i64 0, .int .i64 0] 27)).kept hg3 (by simp)
              have hown4 : w4.ownsMap Ybaf.prog 9 R B n (Dm N (pv N r f t) n) := by
                rw [hw4]
                exact (((hown3.setCell (by simp; omega) _).setCell (by simp; omega) _).setCell (by simp; omega) _).setCell (by simp; omega) _
              have hbw4 : Below B w w4 := by
                rw [hw4]
                exact (((((hw.alloc (by omega) _).grown hg3 (by simp; omega) (fun k hk => by simp at hk)).setCell (by simp; omega) _).setCell (by simp; omega) _).setCell (by simp; omega) _).setCell (by simp; omega) _
              have hs4 : B1 + 1 ≤ w4.heap.size := by
                rw [hw4]
                have := hg3.size
                simp at this
                simp [World.setCell]
                omega
              have q0 : w4.cell? ⟨B1, 0, none⟩ = some (.string (N k)) := by rw [hw4]; simp [go_sem, k0]
              have q1 : w4.cell? ⟨B1, 1, none⟩ = some (.int .i64 (r k)) := by rw [hw4]; simp [go_sem, k1]
              have q2 : w4.cell? ⟨B1, 2, none⟩ = some (.int .i64 (f k)) := by rw [hw4]; simp [go_sem, k2]
              have q3 : w4.cell? ⟨B1, 3, none⟩ = some (.int .i64 (t k)) := by rw [hw4]; simp [go_sem, k3]
              have HW4 := hide hw4
              have HOWN4 := hide hown4
              have HBW4 := hide hbw4
              clear hw4 hown4 hown3 hb3 hg3 hbw4
              go_wp2_with (at_len; refine wpList_len_own _ rfl _ 23 rfl 9 27 Ybaf.underlying23 R B n (Dm N (pv N r f t) n) rfl (by rw [← HW4.out]; exact HOWN4.out) ?_)
              rw [← HW4.out]
              refine (named_hit ky B n (Dm N (pv N r f t) n) _ (N k) (r k) (f k) (t k) _ HOWN4.out HKY.out HD.out.1 HD.out.2).mono ?_
              rintro e w5 ⟨rfl, hg5⟩
              have HOWN5 := hide (HOWN4.out.kept hg5 (by simp))
              have HB5 := hide (HBW4.out.grown hg5 (by omega) (fun k hk => by simp at hk))
              have hs5 : B1 + 1 ≤ w5.heap.size := by have := hg5.size; omega
              have p0 := hg5.cell q0 (by simp)
              have p1 := hg5.cell q1 (by simp)
              have p2 := hg5.cell q2 (by simp)
              have p3 := hg5.cell q3 (by simp)
              have hB5 : B1 < w5.heap.size := by omega
              clear hg5 q0 q1 q2 q3 k0 k1 k2 k3 f0 f1 f2 f3
              go_wp2_with (at_len; refine wpList_len_own _ rfl _ 23 rfl 9 27 Ybaf.underlying23 R B n (Dm N (pv N r f t) n) rfl (HOWN5.out.alloc _) ?_)
              go_ret
              exact ⟨by simp, by rw [HB.out]; exact HB5.out.alloc (by omega) _⟩
            · have ht2 : ((N k).toList == ky.toList) = false := by simp only [beq_eq_false_iff_ne]; exact fun h => hp (str_eq h)
              have HP := hide hp
              clear hp
              go_wp2
              go_round
              case rel => exact ⟨rfl, k, by omega, rfl, fun j h1 h2 => by
                by_cases e : j = k
                · subst e; exact HP.out
                · exact HNO.out j (by omega) h2⟩
              case measure => first | (simp [intOf]; omega) | simp [intOf]
      · have ht : (pk % 2 == 0) = false := by simp [hpar]
        have HKY := hide (keyOf_string_mk (P := Ybaf.prog) Ybaf.underlying9 HNAM.out)
        generalize nam = ky at *
        go_wp2
        go_loop [10, 12] (fun fd i => fd = .bool false ∧ ∃ k : Nat, k ≤ n ∧ i = .int .i64 ((k : Int) - 1) ∧ ∀ j, k ≤ j → j < n → ¬ N j = ky) (fun _ i => (intOf i + 1).toNat)
        case atStart => exact ⟨rfl, n, Nat.le_refl _, rfl, fun j h1 h2 => absurd h2 (by omega)⟩
        case round =>
          obtain ⟨rfl, k, hk, rfl, hno⟩ := hrel
          have HNO := hide hno
          clear hno
          cases k with
          | zero =>
            have HL := hide (lastOf_skip N ky n 0 (by omega) HNO.out)
            have HH := hide (Dm_none N (pv N r f t) ky n HL.out)
            have hown2 : ∀ o, (w1.alloc o).ownsMap Ybaf.prog 9 R B n (Dm N (pv N r f t) n) := fun o => HOWN.out.alloc o
            have HOWN2 := hide hown2
            clear hown2
            go_wp2_with (at_len; refine wpList_len_own _ rfl _ 23 rfl 9 27 Ybaf.underlying23 R B n (Dm N (pv N r f t) n) rfl (HOWN2.out _) ?_)
            refine (named_miss F ky B n (Dm N (pv N r f t) n) _ _ (by exact HF1.out) (HOWN2.out _) HKY.out HH.out).mono ?_
            rintro e w5 ⟨⟨b', rfl⟩, hg5⟩
            have hown5 := (HOWN2.out _).kept hg5 (by simp)
            have HOWN5 := hide hown5
            have hb5 : Below B w w5 := (hw.alloc (by omega) _).grown hg5 (by simp; omega) (fun k hk => by simp at hk)
            have HB5 := hide hb5
            have hs5 : B1 + 1 ≤ w5.heap.size := by have := hg5.size; simp at this; omega
            clear hown5 hg5 hb5
            unfold zeroV
            go_wp2_with (at_len; refine wpList_len_own _ rfl _ 23 rfl 9 27 Ybaf.underlying23 R B n (Dm N (pv N r f t) n) rfl (HOWN5.out.alloc _) ?_)
            go_ret
            exact ⟨rfl, by rw [HB.out]; exact HB5.out.alloc (by omega) _⟩
          | succ k =>
            rw [show (((k + 1 : Nat) : Int) - 1) = (k : Int) from by omega]
            obtain ⟨c0, c1, c2, c3⟩ := HE1.out k (by omega)
            have l0 : (0 : Int) ≤ (k : Int) := by omega
            have l1 : (k : Int) < (n : Int) := by omega
            have hbB1 : b < B1 := by omega
            by_cases hp : N k = ky
            · have ht2 : ((N k).toList == ky.toList) = true := by rw [hp]; simp
              have HL := hide (lastOf_hit N ky n k (by omega) (fun j h1 h2 => HNO.out j (by omega) h2) hp)
              have HD := hide (Dm_some N (pv N r f t) ky (.held zeroV) n k HL.out)
              clear hp
              go_wp2_with fail
              refine (prog_any (N k) (r k) (f k) (t k) _).mono ?_
              rintro e w3 ⟨rfl, hg3⟩
              have hb3 : w3.heap[B1]? = some (.cells #[.string ⟨#[]⟩, .int .i64 0, .int .i64 0, .int .i64 0] 27 (0, 0)) := by
                rw [hg3.block B1 (by simp; omega) (by simp), ← HB1.out]
                exact heap_alloc_new w1 _
              have k0 : w3.cell? ⟨B1, 0, none⟩ = some (.string ⟨#[]⟩) := by simp [World.cell?, hb3]
              have k1 : w3.cell? ⟨B1, 1, none⟩ = some (.int .i64 0) := by simp [World.cell?, hb3]
              have k2 : w3.cell? ⟨B1, 2, none⟩ = some (.int .i64 0) := by simp [World.cell?, hb3]
              have k3 : w3.cell? ⟨B1, 3, none⟩ = some (.int .i64 0) := by simp [World.cell?, hb3]
              have f0 : w3.frozen? ⟨B1, 0, none⟩ = false := by simp [World.frozen?, hb3]
              have f1 : w3.frozen? ⟨B1, 1, none⟩ = false := by simp [World.frozen?, hb3]
              have f2 : w3.frozen? ⟨B1, 2, none⟩ = false := by simp [World.frozen?, hb3]
              have f3 : w3.frozen? ⟨B1, 3, none⟩ = false := by simp [World.frozen?, hb3]
              obtain ⟨w4, hw4⟩ : ∃ w4, w4 = (((w3.setCell ⟨B1, 0, none⟩ (.string (N k))).setCell ⟨B1, 1, none⟩ (.int .i64 (r k))).setCell ⟨B1, 2, none⟩ (.int .i64 (f k))).setCell ⟨B1, 3, none⟩ (.int .i64 (t k)) := ⟨_, rfl⟩
              have hown3 := (HOWN.out.alloc (.cells #[.string ⟨#[]⟩, .int .i64 0, .int .i64 0, .int .i64 0] 27)).kept hg3 (by simp)
              have hown4 : w4.ownsMap Ybaf.prog 9 R B n (Dm N (pv N r f t) n) := by
                rw [hw4]
                exact (((hown3.setCell (by simp; omega) _).setCell (by simp; omega) _).setCell (by simp; omega) _).setCell (by simp; omega) _
              have hbw4 : Below B w w4 := by
                rw [hw4]
                exact (((((hw.alloc (by omega) _).grown hg3 (by simp; omega) (fun k hk => by simp at hk)).setCell (by simp; omega) _).setCell (by simp; omega) _).setCell (by simp; omega) _).setCell (by simp; omega) _
              have hs4 : B1 + 1 ≤ w4.heap.size := by
                rw [hw4]
                have := hg3.size
                simp at this
                simp [World.setCell]
                omega
              have q0 : w4.cell? ⟨B1, 0, none⟩ = some (.string (N k)) := by rw [hw4]; simp [go_sem, k0]
              have q1 : w4.cell? ⟨B1, 1, none⟩ = some (.int .i64 (r k)) := by rw [hw4]; simp [go_sem, k1]
              have q2 : w4.cell? ⟨B1, 2, none⟩ = some (.int .i64 (f k)) := by rw [hw4]; simp [go_sem, k2]
              have q3 : w4.cell? ⟨B1, 3, none⟩ = some (.int .i64 (t k)) := by rw [hw4]; simp [go_sem, k3]
              have HW4 := hide hw4
              have HOWN4 := hide hown4
              have HBW4 := hide hbw4
              clear hw4 hown4 hown3 hb3 hg3 hbw4
              go_wp2_with (at_len; refine wpList_len_own _ rfl _ 23 rfl 9 27 Ybaf.underlying23 R B n (Dm N (pv N r f t) n) rfl (by rw [← HW4.out]; exact HOWN4.out) ?_)
              rw [← HW4.out]
              refine (named_hit ky B n (Dm N (pv N r f t) n) _ (N k) (r k) (f k) (t k) _ HOWN4.out HKY.out HD.out.1 HD.out.2).mono ?_
              rintro e w5 ⟨rfl, hg5⟩
              have HOWN5 := hide (HOWN4.out.kept hg5 (by simp))
              have HB5 := hide (HBW4.out.grown hg5 (by omega) (fun k hk => by simp at hk))
              have hs5 : B1 + 1 ≤ w5.heap.size := by have := hg5.size; omega
              have p0 := hg5.cell q0 (by simp)
              have p1 := hg5.cell q1 (by simp)
              have p2 := hg5.cell q2 (by simp)
              have p3 := hg5.cell q3 (by simp)
              have hB5 : B1 < w5.heap.size := by omega
              clear hg5 q0 q1 q2 q3 k0 k1 k2 k3 f0 f1 f2 f3
              go_wp2_with (at_len; refine wpList_len_own _ rfl _ 23 rfl 9 27 Ybaf.underlying23 R B n (Dm N (pv N r f t) n) rfl (HOWN5.out.alloc _) ?_)
              go_ret
              exact ⟨by simp, by rw [HB.out]; exact HB5.out.alloc (by omega) _⟩
            · have ht2 : ((N k).toList == ky.toList) = false := by simp only [beq_eq_false_iff_ne]; exact fun h => hp (str_eq h)
              have HP := hide hp
              clear hp
              go_wp2
              go_round
              case rel => exact ⟨rfl, k, by omega, rfl, fun j h1 h2 => by
                by_cases e : j = k
                · subst e; exact HP.out
                · exact HNO.out j (by omega) h2⟩
              case measure => first | (simp [intOf]; omega) | simp [intOf]
end Go.Proofs.YbulkbyqgFmt
