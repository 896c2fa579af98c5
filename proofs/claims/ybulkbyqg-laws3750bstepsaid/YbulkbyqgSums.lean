import Derived.Test.YbulkbyqgAdd
import Derived.Test.YbulkbyqgPlain2
import Derived.Deep.RegionHeld3
import Derived.Deep.DrawnRows
namespace Go.Proofs.Ybulkbyqg
open Go.RowKit
attribute [local go_sem ↓] Go.wp_at_zero Go.wp_at_succ

theorem Earn.drew {w : World} {b B : Nat} {i s : Int} {v : Value} {l : List (ByteArray × Int)} (h : Earn w b B i s v l) : Earn w.drew b B i s v l := ⟨h.blk, h.own.drew⟩

/-- What lies below stays. -/
theorem Earn.below {w w' : World} {b B B1 : Nat} {i s : Int} {v : Value} {l : List (ByteArray × Int)} (h : Earn w b B i s v l) (hb : Below B1 w w') (hB : w.heap.size = B1) : Earn w' b B i s v l := by
  have h1 := lt_of_block h.blk
  refine ⟨(hb.block b (by omega)).trans h.blk, h.own.1, ?_⟩
  rcases h.own.2 with hn | ⟨g, cap, cur, hv, hg, hh, r⟩
  · exact .inl hn
  · have h2 := lt_of_block hh
    exact .inr ⟨g, cap, cur, hv, hg, (hb.block g (by omega)).trans hh, r⟩

theorem names_succ (f : Nat → ByteArray) (k : Nat) : names f (k + 1) = if has (names f k) (f k) = true then names f k else names f k ++ [f k] := rfl
theorem names_pos (f : Nat → ByteArray) (n : Nat) (h : 0 < n) : 0 < (names f n).length := by
  cases n with
  | zero => omega
  | succ n =>
    rw [names_succ]
    split
    · rename_i h
      exact List.length_pos_of_mem ((has_iff _ _).1 h)
    · simp

theorem hide {p : Prop} (h : p) : Hid p := h
theorem one_str (p : ByteArray) : ∀ u ∈ [Value.string p], u.oneCell' = true := by
  intro u hu
  simp at hu
  subst hu
  rfl
theorem Yba.info9 : (Yba.prog.info? 9).map (fun i => (i.zero, i.size, i.bytes)) = some (some (.string ⟨#[]⟩), 1, 16) := by kernel_rfl
theorem names_app {w3 : World} {B1 g cap : Nat} {L L' : List ByteArray} {p : ByteArray} (h : w3.ownsRow B1 9 1 (.slice (some ⟨g, 0, none⟩) (L.length + 1) cap) (L.length + 1) (L.map Value.string ++ [.string p])) (hx : L' = L ++ [p]) :
    w3.ownsRow B1 9 1 (.slice (some ⟨g, 0, none⟩) (L.length + 1) cap) L'.length (L'.map Value.string) := by
  subst hx
  simpa using h
theorem has_take_hit (L : List ByteArray) (p : ByteArray) (j : Nat) (h : j < L.length) (hp : L[j] = p) : has (L.take (j + 1)) p = true := by
  rw [has_iff, List.take_succ_eq_append_getElem h, hp]
  simp
theorem has_take_miss (L : List ByteArray) (p : ByteArray) (j : Nat) (h : j < L.length) (hp : ¬ L[j] = p) : has (L.take (j + 1)) p = has (L.take j) p := by
  rw [List.take_succ_eq_append_getElem h]
  unfold has
  rw [List.any_append]
  simp only [List.any_cons, List.any_nil, hp, decide_false, Bool.or_false]
theorem sumOf_hit (f : Nat → ByteArray) (g : Nat → Int) (p : ByteArray) (k : Nat) (h : f k = p) : sumOf f g p (k + 1) = wrap64 (sumOf f g p k + g k) := by simp [sumOf, h]
theorem sumOf_miss (f : Nat → ByteArray) (g : Nat → Int) (p : ByteArray) (k : Nat) (h : ¬ f k = p) : sumOf f g p (k + 1) = sumOf f g p k := by simp [sumOf, h]
theorem sup_cells {w : World} {b B g1 cap : Nat} {i s : Int} {N : List ByteArray} {S : ByteArray → Int} (h : Earn w b B i s (.slice (some ⟨g1, 0, none⟩) N.length cap) (N.map fun x => (x, S x))) :
    ∀ j (hj : j < N.length), w.cell? ⟨g1, j * 2, none⟩ = some (.string N[j]) ∧ w.cell? ⟨g1, j * 2 + 1, none⟩ = some (.int .i64 (S N[j])) := by
  intro j hj
  have ho := h.own
  have h1 := flat_even (N.map fun x => (x, S x)) j (by simpa using hj)
  have h2 := flat_odd (N.map fun x => (x, S x)) j (by simpa using hj)
  rw [List.length_map] at ho
  rw [ho.cellAt _ (by omega), ho.cellAt _ (by omega), h1, h2]
  simp

/-- One more call. -/
theorem rel_add {w wr w' : World} {B : Nat} {i s : Int} {v : Value} {l : List (ByteArray × Int)} {p : ByteArray} {a : Int} (hB : w.heap.size = B) (hw : Below B w wr) (he : Earn wr B (B + 1) i s v l)
    (ha : Added wr B (B + 1) i s v l p a w') : Below B w w' ∧ ∃ v', Earn w' B (B + 1) i s v' (addS l p a) := by
  obtain ⟨v', he', hch, _⟩ := ha
  refine ⟨hw.trans (hch.below (by have := hw.size; omega) ?_), v', he'⟩
  intro k hk
  rcases hk with h | h
  · omega
  · have := he.own.lt k h; omega

set_option maxHeartbeats 2000000 in
set_option maxRecDepth 100000 in
theorem sums_core (i s : Int) (b2 o2 len2 cap2 b3 o3 len3 cap3 n : Nat) (q g : Nat → Int) (w : World)
    (hn0 : 0 < n) (hn : (n = len2 ∧ n ≤ len3) ∨ (n = len3 ∧ n < len2)) (h2 : len2 ≤ 1024) (h3 : len3 ≤ 1024)
    (hq : ∀ k, k < n → w.cell? ⟨b2, o2 + k, none⟩ = some (.int .u8 (q k))) (hg : ∀ k, k < n → w.cell? ⟨b3, o3 + k, none⟩ = some (.int .i64 (g k)))
    (hb2 : b2 < w.heap.size) (hb3 : b3 < w.heap.size)
    (hqb : ∀ k, 0 ≤ q k ∧ q k ≤ 255) (hgb : ∀ k, -9223372036854775808 ≤ g k ∧ g k ≤ 9223372036854775807) :
    Calls Yba.prog 3 #[.int .i64 i, .int .i64 s, .slice (some ⟨b2, o2, none⟩) len2 cap2, .slice (some ⟨b3, o3, none⟩) len3 cap3] w fun e w' => e = .returned (.bool true) ∧ Below w.heap.size w w' := by
  obtain ⟨B, hB⟩ : ∃ B, w.heap.size = B := ⟨_, rfl⟩
  have HQ : Hid (∀ k, k < n → w.cell? ⟨b2, o2 + k, none⟩ = some (.int .u8 (q k))) := hq
  have HG : Hid (∀ k, k < n → w.cell? ⟨b3, o3 + k, none⟩ = some (.int .i64 (g k))) := hg
  have HQB : Hid (∀ k, 0 ≤ q k ∧ q k ≤ 255) := hqb
  have HGB : Hid (∀ k, -9223372036854775808 ≤ g k ∧ g k ≤ 9223372036854775807) := hgb
  clear hq hg hqb hgb
  have hd2 : decide ((1024 : Int) < (len2 : Int)) = false := by simp; omega
  have hd3 : decide ((1024 : Int) < (len3 : Int)) = false := by simp; omega
  have hd4 : n ≤ len3 → decide (len3 < n) = false := fun h => by simp; omega
  have HB : Hid (w.heap.size = B) := hB
  obtain ⟨i9, hi, hz0, hz1, hz2⟩ := info_parts Yba.info9
  have HK2 : Hid (∀ k : Nat, k < n → (k : Int) < (len2 : Int)) := fun k hk => by omega
  have HK3 : Hid (∀ k : Nat, k < n → (k : Int) < (len3 : Int)) := fun k hk => by omega
  rcases hn with ⟨rfl, hn⟩ | ⟨rfl, hn⟩
  all_goals
    go_enter Yba.func3, Yba.ntmps3
    go_wp2
    go_loopw [11] (fun t wr => ∃ k : Nat, k ≤ n ∧ t = .int .i64 k ∧ Below B w wr ∧ ∃ v, Earn wr B (B + 1) i s v (built (fun j => nm (q j)) g k)) (fun t _ => n - (intOf t).toNat)
    case atStart => exact ⟨0, Nat.zero_le _, rfl, (Below.refl _ _).alloc (by omega) _, .slice none 0 0, ⟨by rw [← HB.out]; exact heap_alloc_new w _, World.ownsRow_nil _ _ _ _⟩⟩
    case round =>
      obtain ⟨k, hk, rfl, hw, v, he⟩ := hrel
      by_cases hlt : k < n
      · have c2 : wr.cell? ⟨b2, o2 + k, none⟩ = some (.int .u8 (q k)) := (hw.cell (p := ⟨b2, o2 + k, none⟩) (by show b2 < B; omega)).trans (HQ.out k hlt)
        have c3 : wr.cell? ⟨b3, o3 + k, none⟩ = some (.int .i64 (g k)) := (hw.cell (p := ⟨b3, o3 + k, none⟩) (by show b3 < B; omega)).trans (HG.out k hlt)
        have hq0 := (HQB.out k).1
        have hq1 := (HQB.out k).2
        have hl2 : (0 : Int) ≤ (k : Int) := by omega
        have hl3 : (k : Int) < (n : Int) := by omega
        have hl4 := HK2.out k hlt
        have hl5 := HK3.out k hlt
        have hll := built_length_le (fun j => nm (q j)) g k
        have hsz : B + 1 ≤ wr.heap.size := by have := lt_of_block he.blk; omega
        go_wp2
        go_region_held3 (fun w' => w'.cell? ⟨b2, o2 + k, none⟩ = some (.int .u8 (q k)) ∧ w'.cell? ⟨b3, o3 + k, none⟩ = some (.int .i64 (g k))) (go_keep) (first | (go_at_call 6; refine (name_any (q k) hq0 hq1 _).mono ?_; rintro e w' ⟨rfl, rfl⟩) | (go_at_call 5; refine (add_any B (B + 1) i s v (built (fun j => nm (q j)) g k) (nm (q k)) (g k) _ he.drew (by omega) hsz (by omega)).mono ?_; rintro e w' ⟨rfl, hadd⟩; obtain ⟨hw', he'⟩ := rel_add HB.out hw.drew he.drew hadd; have c2' : w'.cell? ⟨b2, o2 + k, none⟩ = some (.int .u8 (q k)) := (hw'.cell (p := ⟨b2, o2 + k, none⟩) (by show b2 < B; omega)).trans (HQ.out k hlt); have c3' : w'.cell? ⟨b3, o3 + k, none⟩ = some (.int .i64 (g k)) := (hw'.cell (p := ⟨b3, o3 + k, none⟩) (by show b3 < B; omega)).trans (HG.out k hlt)))
        go_wp2
        go_roundw
        case rel => exact ⟨k + 1, by omega, by go_num, hw', he'⟩
        case measure => simp [intOf]; omega
      · have hkn : n = k := by omega
        subst hkn
        have c0 : wr.cell? ⟨B, 0, none⟩ = some (.int .i64 i) := by simp [World.cell?, he.blk]
        have c1 : wr.cell? ⟨B, 1, none⟩ = some (.int .i64 s) := by simp [World.cell?, he.blk]
        obtain ⟨w1, hw1⟩ : ∃ w1, w1 = wr := ⟨_, rfl⟩
        subst hw1
        obtain ⟨B1, hB1⟩ : ∃ B1, w1.heap.size = B1 := ⟨_, rfl⟩
        have HB1 : Hid (w1.heap.size = B1) := hB1
        have hBB : B < B1 := by have := lt_of_block he.blk; omega
        have he1 : Hid (Earn w1 B (B + 1) i s v (built (fun j => nm (q j)) g n)) := he
        clear he
        go_wp2
        go_loopw [12, 13] (fun nv t w2 => ∃ k : Nat, k ≤ n ∧ t = .int .i64 k ∧ Below B1 w1 w2 ∧ w2.ownsRow B1 9 1 nv (names (fun j => nm (q j)) k).length ((names (fun j => nm (q j)) k).map Value.string)) (fun _ t _ => n - (intOf t).toNat)
        case atStart => exact ⟨0, Nat.zero_le _, rfl, Below.refl _ _, World.ownsRow_nil _ _ _ _⟩
        case round =>
          obtain ⟨k, hk, rfl, hw2, hown2⟩ := hrel
          obtain ⟨w2, hw2e⟩ : ∃ w2, w2 = wr := ⟨_, rfl⟩
          subst hw2e
          by_cases hlt : k < n
          · have hB1s : B1 ≤ w2.heap.size := by have := hw2.size; omega
            have c2 : w2.cell? ⟨b2, o2 + k, none⟩ = some (.int .u8 (q k)) := ((hw2.cell (p := ⟨b2, o2 + k, none⟩) (by show b2 < B1; omega)).trans (hw.cell (p := ⟨b2, o2 + k, none⟩) (by show b2 < B; omega))).trans (HQ.out k hlt)
            have hq0 := (HQB.out k).1
            have hq1 := (HQB.out k).2
            have hl4 := HK2.out k hlt
            have hll := names_length_le (fun j => nm (q j)) k
            have hnx := names_succ (fun j => nm (q j)) k
            have HNX := hide hnx
            clear hnx
            generalize hL : names (fun j => nm (q j)) k = L at *
            have HL := hide hL
            clear hL
            rcases hown2.2 with ⟨hv, hl⟩ | ⟨g2, cp2, _, hv, _⟩
            · subst hv
              obtain rfl : L = [] := List.eq_nil_of_length_eq_zero hl
              clear hl
              go_wp2_with (go_at_call 6; refine (name_any (q k) hq0 hq1 _).mono ?_; rintro e w' ⟨rfl, rfl⟩)
              go_loop [15, 78] (fun sn t => sn = .bool false ∧ t = .int .i64 0) (fun _ _ => 0)
              case atStart => exact ⟨rfl, rfl⟩
              case round =>
                obtain ⟨rfl, rfl⟩ := hrel
                go_wp2_with (at_builtin; refine wpList_append_lies _ rfl _ _ 29 rfl B1 9 i9 (.string ⟨#[]⟩) 1 16 Yba.underlying29 hi hz0 hz1 hz2 rfl (by decide) _ 0 _ rfl (hown2.alloc _) ⟨w2.heap.size, 0, none⟩ 1 1 [.string (nm (q k))] rfl rfl (cell_one_new _ _ _) (one_str _) (by decide) (by unfold maxLen; omega) (by omega) (by simp; omega) (w2.heap.size + 1) (by simp) ?_; intro g' cap' w3 hown3 hgrow hat hg3)
                go_roundw
                case rel => exact ⟨k + 1, by omega, by go_num, (hw2.alloc hB1s _).grown hgrow (by simp; omega) (fun k hk => (hown2.lt k hk).1), names_app hown3 HNX.out⟩
                case measure => simp [intOf]; omega
            · subst hv
              go_wp2_with (go_at_call 6; refine (name_any (q k) hq0 hq1 _).mono ?_; rintro e w' ⟨rfl, rfl⟩)
              go_loop [15, 78] (fun sn t => ∃ j : Nat, j ≤ L.length ∧ t = .int .i64 j ∧ sn = .bool (has (L.take j) (nm (q k)))) (fun _ t => L.length - (intOf t).toNat)
              case atStart => exact ⟨0, Nat.zero_le _, rfl, rfl⟩
              case round =>
                obtain ⟨j, hj, rfl, rfl⟩ := hrel
                by_cases hjl : j < L.length
                · have c4 : w2.cell? ⟨g2, j, none⟩ = some (.string L[j]) := by rw [hown2.cellAt _ (by omega)]; simp [hjl]
                  by_cases hp : L[j] = nm (q k)
                  · have ht : (L[j].toList == (nm (q k)).toList) = true := by rw [hp]; simp
                    have HP := hide (has_take_hit L (nm (q k)) j hjl hp)
                    clear hp
                    go_wp2
                    go_round
                    case rel => exact ⟨j + 1, by omega, by go_num, by rw [HP.out]⟩
                    case measure => simp [intOf]; omega
                  · have ht : (L[j].toList == (nm (q k)).toList) = false := by simp only [beq_eq_false_iff_ne]; exact fun h => hp (str_eq h)
                    have HP := hide (has_take_miss L (nm (q k)) j hjl hp)
                    clear hp
                    go_wp2
                    go_round
                    case rel => exact ⟨j + 1, by omega, by go_num, by rw [HP.out]⟩
                    case measure => simp [intOf]; omega
                · have htk : L.take j = L := List.take_of_length_le (by omega)
                  rw [htk]
                  clear htk
                  cases hh : has L (nm (q k))
                  · have HH := hide hh
                    clear hh
                    go_wp2_with (at_builtin; refine wpList_append_lies _ rfl _ _ 29 rfl B1 9 i9 (.string ⟨#[]⟩) 1 16 Yba.underlying29 hi hz0 hz1 hz2 rfl (by decide) _ L.length _ rfl (hown2.alloc _) ⟨w2.heap.size, 0, none⟩ 1 1 [.string (nm (q k))] rfl rfl (cell_one_new _ _ _) (one_str _) (by decide) (by unfold maxLen; omega) (by omega) (by simp; omega) (w2.heap.size + 1) (by simp) ?_; intro g' cap' w3 hown3 hgrow hat hg3)
                    go_roundw
                    case rel => exact ⟨k + 1, by omega, by go_num, (hw2.alloc hB1s _).grown hgrow (by simp; omega) (fun k hk => (hown2.lt k hk).1), names_app hown3 (by rw [HNX.out, HH.out]; simp)⟩
                    case measure => simp [intOf]; omega
                  · have HH := hide hh
                    clear hh
                    go_wp2
                    go_roundw
                    case rel => exact ⟨k + 1, by omega, by go_num, hw2, by rw [HNX.out, HH.out]; exact hown2⟩
                    case measure => simp [intOf]; omega
          · have hkn : n = k := by omega
            subst hkn
            have hl2 := built_eq (fun j => nm (q j)) g HGB.out n
            have hl1 : (built (fun j => nm (q j)) g n).length = (names (fun j => nm (q j)) n).length := by rw [hl2]; simp
            have hpos : 0 < (names (fun j => nm (q j)) n).length := names_pos _ n hn0
            have hll := names_length_le (fun j => nm (q j)) n
            obtain ⟨g2, cp2, hv2, hg2, hg2s⟩ := hown2.form hpos
            have he2 := he1.out.below hw2 HB1.out
            obtain ⟨g1, cp1, hv1, hg1, hg1s⟩ := he2.own.form (by omega)
            subst hv2 hv1
            rw [hl1] at he2
            have c22 : w2.cell? ⟨B, 2, none⟩ = some (.slice (some ⟨g1, 0, none⟩) (names (fun j => nm (q j)) n).length cp1) := by simp [World.cell?, he2.blk]
            rw [hl2] at he2
            have HC := hide (sup_cells he2)
            have HN := hide (fun (j : Nat) (hj : j < (names (fun j => nm (q j)) n).length) => (show w2.cell? ⟨g2, j, none⟩ = some (.string (names (fun j => nm (q j)) n)[j]) by rw [hown2.cellAt _ (by omega)]; simp [hj]))
            clear hl1 hl2 he2 hown2 he1
            have hfin : Below B w w2 := hw.trans (hw2.mono (by omega))
            have HF := hide hfin
            clear hfin
            generalize names (fun j => nm (q j)) n = N at *
            go_wp2
            go_loop [100] (fun t => ∃ j : Nat, j ≤ N.length ∧ t = .int .i64 j) (fun t => N.length - (intOf t).toNat)
            case atStart => exact ⟨0, Nat.zero_le _, rfl⟩
            case round =>
              obtain ⟨j, hj, rfl⟩ := hrel
              by_cases hjl : j < N.length
              · have c4 := HN.out j hjl
                have c5 := (HC.out j hjl).1
                have c6 := (HC.out j hjl).2
                generalize N[j] = x at *
                go_wp2
                go_loop [20, 21] (fun sm t => ∃ k : Nat, k ≤ n ∧ t = .int .i64 k ∧ sm = .int .i64 (sumOf (fun j => nm (q j)) g x k)) (fun _ t => n - (intOf t).toNat)
                case atStart => exact ⟨0, Nat.zero_le _, rfl, rfl⟩
                case round =>
                  obtain ⟨k, hk, rfl, rfl⟩ := hrel
                  by_cases hlt : k < n
                  · have c2 : w2.cell? ⟨b2, o2 + k, none⟩ = some (.int .u8 (q k)) := ((hw2.cell (p := ⟨b2, o2 + k, none⟩) (by show b2 < B1; omega)).trans (hw.cell (p := ⟨b2, o2 + k, none⟩) (by show b2 < B; omega))).trans (HQ.out k hlt)
                    have c3 : w2.cell? ⟨b3, o3 + k, none⟩ = some (.int .i64 (g k)) := ((hw2.cell (p := ⟨b3, o3 + k, none⟩) (by show b3 < B1; omega)).trans (hw.cell (p := ⟨b3, o3 + k, none⟩) (by show b3 < B; omega))).trans (HG.out k hlt)
                    have hq0 := (HQB.out k).1
                    have hq1 := (HQB.out k).2
                    have hl4 := HK2.out k hlt
                    have hl5 := HK3.out k hlt
                    by_cases hp : nm (q k) = x
                    · have ht : ((nm (q k)).toList == x.toList) = true := by rw [hp]; simp
                      have HP := hide (sumOf_hit (fun j => nm (q j)) g x k hp)
                      clear hp
                      go_wp2_with (go_at_call 6; refine (name_any (q k) hq0 hq1 _).mono ?_; rintro e w' ⟨rfl, rfl⟩)
                      go_round
                      case rel => exact ⟨k + 1, by omega, by go_num, by rw [HP.out]⟩
                      case measure => simp [intOf]; omega
                    · have ht : ((nm (q k)).toList == x.toList) = false := by simp only [beq_eq_false_iff_ne]; exact fun h => hp (str_eq h)
                      have HP := hide (sumOf_miss (fun j => nm (q j)) g x k hp)
                      clear hp
                      go_wp2_with (go_at_call 6; refine (name_any (q k) hq0 hq1 _).mono ?_; rintro e w' ⟨rfl, rfl⟩)
                      go_round
                      case rel => exact ⟨k + 1, by omega, by go_num, by rw [HP.out]⟩
                      case measure => simp [intOf]; omega
                  · have hkn : n = k := by omega
                    subst hkn
                    go_wp2
                    go_round
                    case rel => exact ⟨j + 1, by omega, by go_num⟩
                    case measure => simp [intOf]; omega
              · go_wp2
                go_ret
                exact ⟨rfl, HF.out⟩
end Go.Proofs.Ybulkbyqg
