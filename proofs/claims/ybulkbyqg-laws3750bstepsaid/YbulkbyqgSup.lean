import Derived.Test.YbulkbyqgAdd
import Derived.Deep.QuietTactic
import Derived.BigQuiet
namespace Go.Proofs.Ybulkbyqg
open Go.RowKit

/-- What 'supportOf' answers. -/
def supOf : List (ByteArray × Int) → ByteArray → Int
  | [], _ => 0
  | x :: r, p => if x.1 = p then x.2 else supOf r p

theorem supOf_hit (l : List (ByteArray × Int)) (p : ByteArray) (k : Nat) (h : k < l.length) (hno : ∀ j, (hj : j < l.length) → j < k → (l[j]).1 ≠ p) (hk : (l[k]).1 = p) : supOf l p = (l[k]).2 := by
  induction l generalizing k with
  | nil => simp at h
  | cons x r ih =>
    cases k with
    | zero => simp [supOf]; intro h2; exact absurd hk h2
    | succ k =>
      have h0 := hno 0 (by simp) (by omega)
      have := ih k (by simpa using h) (fun j hj hjk => by have := hno (j + 1) (by simpa using hj) (by omega); rwa [List.getElem_cons_succ] at this) (by simpa using hk)
      rw [List.getElem_cons_zero] at h0
      simp [supOf, h0, this]

theorem supOf_miss (l : List (ByteArray × Int)) (p : ByteArray) (hno : ∀ j, (hj : j < l.length) → (l[j]).1 ≠ p) : supOf l p = 0 := by
  induction l with
  | nil => rfl
  | cons x r ih =>
    have h0 := hno 0 (by simp)
    have := ih (fun j hj => by have := hno (j + 1) (by simpa using hj); rwa [List.getElem_cons_succ] at this)
    rw [List.getElem_cons_zero] at h0
    simp [supOf, h0, this]

theorem ret_int {k : IntKind} {a b : Int} (h : a = b) : Ending.returned (.int k a) = .returned (.int k b) := by rw [h]

set_option maxHeartbeats 400000 in
theorem sup_row (B g cap : Nat) (i s : Int) (l : List (ByteArray × Int)) (p : ByteArray) (w : World)
    (hown : w.ownsRow B 31 2 (.slice (some ⟨g, 0, none⟩) l.length cap) l.length (flat l)) (hlen : l.length ≤ 100000) :
    Calls Yba.prog 7 #[.agg #[.int .i64 i, .int .i64 s, .slice (some ⟨g, 0, none⟩) l.length cap], .string p] w fun e w' => e = .returned (.int .i64 (supOf l p)) ∧ Below w.heap.size w w' := by
  have hgb := hown.lt g rfl
  go_enter Yba.func7, Yba.ntmps7
  go_wp2
  go_loopw [10] (fun t wr => ∃ k : Nat, k ≤ l.length ∧ t = .int .i64 k ∧ Below w.heap.size w wr ∧ ∀ j, (hj : j < l.length) → j < k → (l[j]).1 ≠ p) (fun t _ => l.length - (intOf t).toNat)
  case atStart => exact ⟨0, Nat.zero_le _, rfl, (Below.refl _ _).alloc (Nat.le_refl _) _, fun j _ hj => absurd hj (by omega)⟩
  case round =>
    obtain ⟨k, hk, rfl, hw, hno⟩ := hrel
    have HN : Hid (∀ j, (hj : j < l.length) → j < k → (l[j]).1 ≠ p) := hno
    clear hno
    have hsz := hw.size
    by_cases hlt : k < l.length
    · have g0 : wr.cell? ⟨g, k * 2, none⟩ = some (.string (l[k]).1) := (hw.cell (p := ⟨g, k * 2, none⟩) hgb.2).trans (by rw [hown.cellAt _ (by omega)]; exact flat_even l k hlt)
      have g1 : wr.cell? ⟨g, k * 2 + 1, none⟩ = some (.int .i64 (l[k]).2) := (hw.cell (p := ⟨g, k * 2 + 1, none⟩) hgb.2).trans (by rw [hown.cellAt _ (by omega)]; exact flat_odd l k hlt)
      by_cases hp : (l[k]).1 = p
      · have ht : ((l[k]).1.toList == p.toList) = true := by rw [hp]; simp
        have HP := supOf_hit l p k hlt HN.out hp
        have HP2 : Hid (supOf l p = (l[k]).2) := HP
        clear hp HP
        go_wp2
        go_ret
        exact ⟨ret_int HP2.out.symm, hw.alloc hsz _⟩
      · have ht : ((l[k]).1.toList == p.toList) = false := by simp only [beq_eq_false_iff_ne]; exact fun h => hp (str_eq h)
        have HP : Hid (¬ (l[k]).1 = p) := hp
        clear hp
        go_wp2
        go_roundw
        case rel =>
          refine ⟨k + 1, by omega, by go_num, hw.alloc hsz _, fun j hj hjk => ?_⟩
          by_cases e : j = k
          · subst e; exact HP.out
          · exact HN.out j hj (by omega)
        case measure => simp [intOf]; omega
    · have HP : Hid (supOf l p = 0) := supOf_miss l p (fun j hj => HN.out j hj (by omega))
      go_wp2
      go_ret
      exact ⟨ret_int HP.out.symm, hw⟩

/-- The closure: where no entry of that name was there. -/
theorem clo_neg (ba bm bb : Nat) (a : Int) (w : World) (h1 : w.cell? ⟨ba, 0, none⟩ = some (.int .i64 (-1))) (h2 : w.cell? ⟨bm, 0, none⟩ = some (.int .i64 a)) :
    Calls Yba.prog 8 #[.pointer (some ⟨ba, 0, none⟩), .pointer (some ⟨bm, 0, none⟩), .pointer (some ⟨bb, 0, none⟩)] w fun e w' => e = .returned (.int .i64 a) ∧ Below w.heap.size w w' := by
  go_enter Yba.func8, Yba.ntmps8
  go_wp2
  go_ret
  exact ⟨rfl, Below.refl _ _⟩

theorem clo_pos (ba bm bb g m n cap : Nat) (a c : Int) (w : World) (hm : m < n) (h1 : w.cell? ⟨ba, 0, none⟩ = some (.int .i64 m)) (h2 : w.cell? ⟨bm, 0, none⟩ = some (.int .i64 a))
    (h3 : w.cell? ⟨bb, 0, none⟩ = some (.slice (some ⟨g, 0, none⟩) n cap)) (h4 : w.cell? ⟨g, m * 2 + 1, none⟩ = some (.int .i64 c)) :
    Calls Yba.prog 8 #[.pointer (some ⟨ba, 0, none⟩), .pointer (some ⟨bm, 0, none⟩), .pointer (some ⟨bb, 0, none⟩)] w fun e w' => e = .returned (.int .i64 (wrap64 (c + a))) ∧ Below w.heap.size w w' := by
  have l0 : (0 : Int) ≤ (m : Int) := by omega
  have l1 : (m : Int) < (n : Int) := by omega
  go_enter Yba.func8, Yba.ntmps8
  go_wp2
  go_quiet (fail)
  go_wp2
  go_ret
  exact ⟨rfl, below_drewN (Below.refl _ _) _⟩
end Go.Proofs.Ybulkbyqg
