/-
  The plain side of the laws on 'addSupport': lists of pairs, no Go in sight.
-/
import Derived.WalkKit
namespace Go.Proofs.Ybulkbyqg
open Go.RowKit

/-- What 'zzs3750bname' answers. -/
def nm (n : Int) : ByteArray := if n % 4 = 0 then ⟨#[]⟩ else if n % 4 = 1 then ⟨#[97]⟩ else if n % 4 = 2 then ⟨#[98]⟩ else ⟨#[97, 98]⟩

/-- The entries as the cells in memory: a string and a number each. -/
def flat : List (ByteArray × Int) → List Value
  | [] => []
  | x :: r => .string x.1 :: .int .i64 x.2 :: flat r

/-- What 'addSupport' makes of the entries. -/
def addS : List (ByteArray × Int) → ByteArray → Int → List (ByteArray × Int)
  | [], p, a => [(p, a)]
  | x :: r, p, a => if x.1 = p then (x.1, wrap64 (x.2 + a)) :: r else x :: addS r p a

theorem flat_length (l : List (ByteArray × Int)) : (flat l).length = l.length * 2 := by
  induction l with
  | nil => rfl
  | cons x r ih => simp [flat, ih]; omega

theorem flat_append (l r : List (ByteArray × Int)) : flat (l ++ r) = flat l ++ flat r := by
  induction l with
  | nil => rfl
  | cons x l ih => simp [flat, ih]

theorem flat_even (l : List (ByteArray × Int)) (k : Nat) (h : k < l.length) : (flat l)[k * 2]? = some (.string (l[k]).1) := by
  induction l generalizing k with
  | nil => simp at h
  | cons x r ih =>
    cases k with
    | zero => rfl
    | succ k =>
      have := ih k (by simpa using h)
      rw [show (k + 1) * 2 = k * 2 + 1 + 1 by omega]
      simpa [flat] using this

theorem flat_odd (l : List (ByteArray × Int)) (k : Nat) (h : k < l.length) : (flat l)[k * 2 + 1]? = some (.int .i64 (l[k]).2) := by
  induction l generalizing k with
  | nil => simp at h
  | cons x r ih =>
    cases k with
    | zero => rfl
    | succ k =>
      have := ih k (by simpa using h)
      rw [show (k + 1) * 2 + 1 = k * 2 + 1 + 1 + 1 by omega]
      simpa [flat] using this

theorem flat_set (l : List (ByteArray × Int)) (k : Nat) (h : k < l.length) (c : Int) : flat (l.set k ((l[k]).1, c)) = (flat l).set (k * 2 + 1) (.int .i64 c) := by
  induction l generalizing k with
  | nil => simp at h
  | cons x r ih =>
    cases k with
    | zero => rfl
    | succ k =>
      have := ih k (by simpa using h)
      rw [show (k + 1) * 2 + 1 = k * 2 + 1 + 1 + 1 by omega]
      simpa [flat] using this

/-- The first entry of that name is found: it alone turns. -/
theorem addS_hit (l : List (ByteArray × Int)) (p : ByteArray) (a : Int) (k : Nat) (h : k < l.length) (hno : ∀ j, (hj : j < k) → (l[j]'(by omega)).1 ≠ p) (hk : (l[k]).1 = p) :
    addS l p a = l.set k ((l[k]).1, wrap64 ((l[k]).2 + a)) := by
  induction l generalizing k with
  | nil => simp at h
  | cons x r ih =>
    cases k with
    | zero => simp [addS]; intro h2; exact absurd hk h2
    | succ k =>
      have h0 := hno 0 (by omega)
      have := ih k (by simpa using h) (fun j hj => by simpa using hno (j + 1) (by omega)) (by simpa using hk)
      simp at h0
      simp [addS, h0, this]

/-- No entry of that name: a new one behind. -/
theorem addS_miss (l : List (ByteArray × Int)) (p : ByteArray) (a : Int) (hno : ∀ j, (hj : j < l.length) → (l[j]).1 ≠ p) : addS l p a = l ++ [(p, a)] := by
  induction l with
  | nil => rfl
  | cons x r ih =>
    have h0 := hno 0 (by simp)
    have := ih (fun j hj => by have := hno (j + 1) (by simpa using hj); rwa [List.getElem_cons_succ] at this)
    simp at h0
    simp [addS, h0, this]

theorem addS_length_le (l : List (ByteArray × Int)) (p : ByteArray) (a : Int) : (addS l p a).length ≤ l.length + 1 := by
  induction l with
  | nil => simp [addS]
  | cons x r ih =>
    unfold addS
    split <;> simp <;> omega

end Go.Proofs.Ybulkbyqg
