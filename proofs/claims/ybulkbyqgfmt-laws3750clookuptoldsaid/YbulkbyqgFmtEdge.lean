import Derived.Test.YbulkbyqgFmtWalk
namespace Go.Proofs.YbulkbyqgFmt
open Go.RowKit Go.Extern.Stop Go.Stop Go.Extern Go.Maps Go.WideMaps

set_option maxHeartbeats 1000000 in
set_option maxRecDepth 100000 in
theorem look_zero (F : Interp) (a : Option Addr) (cap : Nat) (nam : ByteArray) (pk : Int) (w : World) (hF : F.answers w.tape) (hnam : nam.size ≤ maxLen) (hp0 : 0 ≤ pk) (hp1 : pk ≤ 255) :
    Calls Ybaf.prog 3 #[.slice a 0 cap, .string nam, .int .u8 pk] w fun e w' => e = .returned (.bool true) ∧ Below w.heap.size w w' := by
  obtain ⟨B, hB⟩ : ∃ B, w.heap.size = B := ⟨_, rfl⟩
  have HB := hide hB
  have HKY := hide (keyOf_string_mk (P := Ybaf.prog) Ybaf.underlying9 hnam)
  have HOWN : Hid ((w.alloc (.map #[] 0)).ownsMap Ybaf.prog 9 R B 0 (.map [])) := by have := World.ownsMap_made w Ybaf.prog 9 R; rw [hB] at this; exact this
  have hmm := make_map
  obtain ⟨bt, hbt, ht⟩ : ∃ bt, (bt = true ∨ bt = false) ∧ (pk % 2 == 0) = bt := ⟨pk % 2 == 0, by cases (pk % 2 == 0) <;> simp, rfl⟩
  rcases hbt with rfl | rfl
  all_goals
    go_enter Ybaf.func3, Ybaf.ntmps3
    go_wp2
    go_loop [8] (fun t => t = .int .i64 0) (fun _ => 0)
    case atStart => rfl
    case round =>
      obtain rfl := hrel
      go_wp2
      go_loop [10, 12] (fun fd i => fd = .bool false ∧ i = .int .i64 (-1)) (fun _ _ => 0)
      case atStart => exact ⟨rfl, rfl⟩
      case round =>
        obtain ⟨rfl, rfl⟩ := hrel
        go_wp2_with (at_len; refine wpList_len_own _ rfl _ 23 rfl 9 27 Ybaf.underlying23 R B 0 (.map []) rfl (HOWN.out.alloc _) ?_)
        refine (named_miss F nam B 0 (.map []) _ _ (by exact hF) (HOWN.out.alloc _) HKY.out rfl).mono ?_
        rintro e w5 ⟨⟨b', rfl⟩, hg5⟩
        have HOWN5 := hide ((HOWN.out.alloc _).kept hg5 (by simp))
        have HB5 : Hid (Below B w w5) := (((Below.refl B w).alloc (by omega) _).alloc (by simp; omega) _).grown hg5 (by simp; omega) (fun k hk => by simp at hk)
        clear hg5
        unfold zeroV
        go_wp2_with (at_len; refine wpList_len_own _ rfl _ 23 rfl 9 27 Ybaf.underlying23 R B 0 (.map []) rfl (HOWN5.out.alloc _) ?_)
        go_ret
        exact ⟨rfl, by rw [HB.out]; exact HB5.out.alloc (by have := HB5.out.size; omega) _⟩

theorem look_long (a : Option Addr) (n cap : Nat) (nam : ByteArray) (pk : Int) (w : World) (hn : 1024 < n) :
    Calls Ybaf.prog 3 #[.slice a n cap, .string nam, .int .u8 pk] w fun e w' => e = .returned (.bool true) ∧ Below w.heap.size w w' := by
  have hd : decide ((1024 : Int) < (n : Int)) = true := by simp; omega
  go_enter Ybaf.func3, Ybaf.ntmps3
  go_wp2
  go_ret
  exact ⟨rfl, Below.refl _ _⟩
end Go.Proofs.YbulkbyqgFmt
