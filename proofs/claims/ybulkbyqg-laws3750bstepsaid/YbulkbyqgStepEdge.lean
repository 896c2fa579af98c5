import Derived.Test.YbulkbyqgStep
namespace Go.Proofs.Ybulkbyqg
open Go.RowKit

theorem wpList_copy_nil {P : Program} {w : World} {ops : Array Oper} {rest : List Oper} {o : Oper} {a : Act} {Q : Exit → Act → World → Prop} (hgd : o.guard = none) (d s : Operand) (dT sT : TypeId)
    (ho : o.op = .call { callee := .builtin .copy, args := #[d, s], argTypes := #[dT, sT] }) (elem : TypeId) (i : TypeInfo) (hu : P.underlying dT = some (.slice elem)) (hsz : P.info? elem = some i)
    (ad : Addr) (n c : Nat) (hd : a.eval d = .slice (some ad) n c) (hs : a.eval s = .slice none 0 0)
    (h : wpList P ops Q rest (a.put o.dst (goInt 0)) w) : wpList P ops Q (o :: rest) a w := by
  refine wpList_plain hgd fun K hK => ?_
  have hrun := run_copy_nil P w dT sT o.type elem ad n c hu (by simp [hsz])
  unfold Oper.wp
  simp [execOp, ho, resolve, invoke, builtin, hd, hs, hrun, Result.andThen]
  exact hK _ _ h

def w5of (w : World) (a : Int) (B : Nat) : World :=
  ((((w.alloc (.cells #[.int .i64 a] 2)).alloc (.cells #[.int .i64 0, .int .i64 0, .slice none 0 0] 26)).alloc (.cells #[] 31)).alloc (.cells #[.slice (some ⟨B + 2, 0, none⟩) 0 0] 24)).alloc (.cells #[.int .i64 (-1)] 3)

theorem w5_facts (w : World) (a : Int) (B : Nat) (hB : w.heap.size = B) : (w5of w a B).heap.size = B + 2 + 3 ∧ (w5of w a B).cell? ⟨B, 0, none⟩ = some (.int .i64 a) ∧
    (w5of w a B).heap[B + 1]? = some (.cells #[.int .i64 0, .int .i64 0, .slice none 0 0] 26 (0, 0)) ∧ (w5of w a B).heap[B + 2]? = some (.cells (flat []).toArray 31 (0, 0)) ∧
    (w5of w a B).heap[B + 2 + 1]? = some (.cells #[.slice (some ⟨B + 2, 0, none⟩) 0 0] 24 (0, 0)) ∧ (w5of w a B).heap[B + 2 + 2]? = some (.cells #[.int .i64 (-1)] 3 (0, 0)) ∧ Below B w (w5of w a B) := by
  unfold w5of
  obtain ⟨w1, h1⟩ : ∃ w1, w1 = w.alloc (.cells #[.int .i64 a] 2) := ⟨_, rfl⟩
  obtain ⟨w2, h2⟩ : ∃ w2, w2 = w1.alloc (.cells #[.int .i64 0, .int .i64 0, .slice none 0 0] 26) := ⟨_, rfl⟩
  obtain ⟨w3, h3⟩ : ∃ w3, w3 = w2.alloc (.cells #[] 31) := ⟨_, rfl⟩
  obtain ⟨w4, h4⟩ : ∃ w4, w4 = w3.alloc (.cells #[.slice (some ⟨B + 2, 0, none⟩) 0 0] 24) := ⟨_, rfl⟩
  have s1 : w1.heap.size = B + 1 := by rw [h1]; simp [hB]
  have s2 : w2.heap.size = B + 2 := by rw [h2]; simp [s1]
  have s3 : w3.heap.size = B + 3 := by rw [h3]; simp [s2]
  have s4 : w4.heap.size = B + 4 := by rw [h4]; simp [s3]
  have e1 : w1.heap[B]? = some (.cells #[.int .i64 a] 2 (0, 0)) := by rw [h1, ← hB]; exact heap_alloc_new w _
  have e2 : w2.heap[B + 1]? = some (.cells #[.int .i64 0, .int .i64 0, .slice none 0 0] 26 (0, 0)) := by rw [h2, ← s1]; exact heap_alloc_new w1 _
  have e3 : w3.heap[B + 2]? = some (.cells #[] 31 (0, 0)) := by rw [h3, ← s2]; exact heap_alloc_new w2 _
  have e4 : w4.heap[B + 3]? = some (.cells #[.slice (some ⟨B + 2, 0, none⟩) 0 0] 24 (0, 0)) := by rw [h4, ← s3]; exact heap_alloc_new w3 _
  rw [← h1, ← h2, ← h3, ← h4]
  refine ⟨by simp [s4], ?_, ?_, ?_, ?_, ?_, ?_⟩
  · refine cell_of_one (t := 2) ?_
    rw [Below.heap_alloc _ _ _ (by omega), h4, Below.heap_alloc _ _ _ (by omega), h3, Below.heap_alloc _ _ _ (by omega), h2, Below.heap_alloc _ _ _ (by omega)]; exact e1
  · rw [Below.heap_alloc _ _ _ (by omega), h4, Below.heap_alloc _ _ _ (by omega), h3, Below.heap_alloc _ _ _ (by omega)]; exact e2
  · rw [Below.heap_alloc _ _ _ (by omega), h4, Below.heap_alloc _ _ _ (by omega)]; exact e3
  · rw [Below.heap_alloc _ _ _ (by omega)]; exact e4
  · have := heap_alloc_new w4 (.cells #[.int .i64 (-1)] 3)
    rw [s4] at this
    exact this
  · rw [h4, h3, h2, h1]
    exact (((((Below.refl _ _).alloc (by omega) _).alloc (by simp; omega) _).alloc (by simp; omega) _).alloc (by simp; omega) _).alloc (by simp; omega) _

set_option maxHeartbeats 2000000 in
set_option maxRecDepth 100000 in
theorem step_zero (a : Int) (a2 a3 : Option Addr) (len2 cap2 len3 cap3 : Nat) (pk : Int) (w : World)
    (hn : len2 = 0 ∨ (len3 = 0 ∧ 0 < len2)) (h2 : len2 ≤ 1024) (h3 : len3 ≤ 1024) (hpk0 : 0 ≤ pk) (hpk1 : pk ≤ 255) :
    Calls Yba.prog 4 #[.slice a2 len2 cap2, .slice a3 len3 cap3, .int .u8 pk, .int .i64 a] w fun e w' => e = .returned (.bool true) ∧ Below w.heap.size w w' := by
  have hd2 : decide ((1024 : Int) < (len2 : Int)) = false := by simp; omega
  have hd3 : decide ((1024 : Int) < (len3 : Int)) = false := by simp; omega
  obtain ⟨C, hC, hmk0⟩ := made31 0 (by omega)
  obtain rfl : C = #[] := by simpa using hC
  have hmk : ∀ w : World, (Instr.makeSlice 24 (.int .i64 0) (.int .i64 0)).run Yba.prog w = .ok (.slice (some ⟨w.heap.size, 0, none⟩) 0 0) (w.alloc (.cells #[] 31)) := hmk0
  clear hmk0 hC
  obtain ⟨i31, hi, hz0, hz1, hz2⟩ := info_parts Yba.info31
  obtain ⟨B, hB⟩ : ∃ B, w.heap.size = B := ⟨_, rfl⟩
  have HB := hide hB
  rcases hn with rfl | ⟨rfl, hn⟩
  all_goals
    go_enter Yba.func4, Yba.ntmps4
    go_wp2
    go_loop [11] (fun t => t = .int .i64 0) (fun _ => 0)
    case atStart => rfl
    case round =>
      obtain rfl := hrel
      go_wp2_with (refine wpList_copy_nil rfl (.tmp 54) (.tmp 56) 24 24 rfl 31 i31 Yba.underlying24 hi _ _ _ rfl rfl ?_)
      refine (name_any pk hpk0 hpk1 _).mono ?_
      rintro e w' ⟨rfl, rfl⟩
      generalize nm pk = p
      go_wp2
      go_loop [62] (fun t => t = .int .i64 0) (fun _ => 0)
      case atStart => rfl
      case round =>
        obtain rfl := hrel
        go_wp2_with fail
        obtain ⟨z5, f0, f1, f2, f3, f4, hbw⟩ := w5_facts w a B HB.out
        obtain ⟨w3, hw3⟩ : ∃ w3, w3 = w5of w a B := ⟨_, rfl⟩
        rw [show ((((w.alloc (.cells #[.int .i64 a] 2)).alloc (.cells #[.int .i64 0, .int .i64 0, .slice none 0 0] 26)).alloc (.cells #[] 31)).alloc (.cells #[.slice (some ⟨B + 2, 0, none⟩) 0 0] 24)).alloc (.cells #[.int .i64 (-1)] 3) = w3 from hw3.symm]
        rw [← hw3] at z5 f0 f1 f2 f3 f4 hbw
        clear hw3
        have he3 : Earn w3 (B + 1) (B + 2) 0 0 (.slice none 0 0) [] := ⟨f1, World.ownsRow_nil _ _ _ _⟩
        refine (add_any (B + 1) (B + 2) 0 0 _ [] p a _ he3 (by omega) (by omega) (by simp)).mono ?_
        rintro e w4 ⟨rfl, hadd⟩
        obtain ⟨g', cp', sc⟩ := scene_of (v := .slice none 0 0) z5 (by omega) (fun k hk => by simp [Value.ownBlock] at hk) hadd f0 f2 f3 f4
        clear hadd he3 f0 f1 f2 f3 f4
        have c4am := sc.am
        have c4bv : w4.cell? ⟨B + 3, 0, none⟩ = some (.slice (some ⟨B + 2, 0, none⟩) 0 0) := sc.bv
        have c4at : w4.cell? ⟨B + 4, 0, none⟩ = some (.int .i64 (-1)) := sc.atv
        have c40 : w4.cell? ⟨B + 1, 0, none⟩ = some (.int .i64 0) := by simp [World.cell?, sc.earn.blk]
        have c41 : w4.cell? ⟨B + 1, 1, none⟩ = some (.int .i64 0) := by simp [World.cell?, sc.earn.blk]
        have c42 : w4.cell? ⟨B + 1, 2, none⟩ = some (.slice (some ⟨g', 0, none⟩) 1 cp') := by simp [World.cell?, sc.earn.blk, addS]
        have hg4 := (sc.earn.own.lt g' rfl).2
        obtain ⟨N4, hN4⟩ : ∃ N4, w4.heap.size = N4 := ⟨_, rfl⟩
        have HN4 := hide hN4
        have hz4 : B + 5 ≤ N4 := by have := sc.size; omega
        have hBN : B < N4 := by omega
        have hBN1 : B + 1 < N4 := by omega
        have hBN2 : B + 3 < N4 := by omega
        have hBN3 : B + 4 < N4 := by omega
        rw [hN4] at hg4
        have HBW4 : Hid (Below B w w4) := hbw.trans (sc.below.mono (by omega))
        have HEARN : Hid (Earn w4 (B + 1) (B + 2) 0 0 (.slice (some ⟨g', 0, none⟩) 1 cp') [(p, a)]) := sc.earn
        have hL : w4.cell? ⟨g', 0, none⟩ = some (.string p) ∧ w4.cell? ⟨g', 1, none⟩ = some (.int .i64 a) := own_cells (l := [(p, a)]) HEARN.out 0 (by simp)
        have hL0 := hL.1
        have hL1 := hL.2
        clear hL sc hbw
        go_wp2
        go_loop [110] (fun t => t = .int .i64 0) (fun _ => 0)
        case atStart => rfl
        case round =>
          obtain rfl := hrel
          go_wp2_with fail
          have hbx : ∀ o, Below N4 w4 (w4.alloc o) := fun o => (Below.refl _ _).alloc (by omega) o
          have her := fun o => HEARN.out.below (hbx o) HN4.out
          refine (sup_is (B + 2) g' cp' 0 0 [(p, a)] _ p a _ rfl (by simp [supOf]) (her _).own (by simp)).mono ?_
          rintro e w5 ⟨rfl, hb5⟩
          have hb6 := (hbx _).trans (hb5.mono (by simp; omega))
          have e4am := (hb6.cell (p := ⟨B, 0, none⟩) hBN).trans c4am
          have e4at := (hb6.cell (p := ⟨B + 4, 0, none⟩) hBN3).trans c4at
          go_wp2_with fail
          refine (clo_neg _ _ _ a _ e4at e4am).mono ?_
          rintro e w6 ⟨rfl, hb7⟩
          go_wp2
          go_ret
          exact ⟨by simp, by rw [HB.out]; exact HBW4.out.trans ((hb6.mono (by omega)).trans (hb7.mono (by have := hb6.size; omega)))⟩

set_option maxHeartbeats 1000000 in
theorem step_long (a : Int) (a2 a3 : Option Addr) (len2 cap2 len3 cap3 : Nat) (pk : Int) (w : World)
    (hn : 1024 < len2 ∨ (len2 ≤ 1024 ∧ 1024 < len3)) :
    Calls Yba.prog 4 #[.slice a2 len2 cap2, .slice a3 len3 cap3, .int .u8 pk, .int .i64 a] w fun e w' => e = .returned (.bool true) ∧ Below w.heap.size w w' := by
  rcases hn with h | ⟨h2, h3⟩
  · have hd2 : decide ((1024 : Int) < (len2 : Int)) = true := by simp; omega
    go_enter Yba.func4, Yba.ntmps4
    go_wp2
    go_ret
    exact ⟨rfl, (Below.refl _ _).alloc (Nat.le_refl _) _⟩
  · have hd2 : decide ((1024 : Int) < (len2 : Int)) = false := by simp; omega
    have hd3 : decide ((1024 : Int) < (len3 : Int)) = true := by simp; omega
    go_enter Yba.func4, Yba.ntmps4
    go_wp2
    go_ret
    exact ⟨rfl, (Below.refl _ _).alloc (Nat.le_refl _) _⟩
end Go.Proofs.Ybulkbyqg
