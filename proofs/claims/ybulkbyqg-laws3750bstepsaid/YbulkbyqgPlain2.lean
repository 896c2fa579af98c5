/-
  The plain law of 'LawS3750BSums': the entries that a run of 'addSupport' builds are the names in the order of their first naming, each with the sum of its amounts.
-/
import Derived.Test.YbulkbyqgPlain
namespace Go.Proofs.Ybulkbyqg
open Go.RowKit

/-- The entries behind k calls. -/
def built (f : Nat → ByteArray) (g : Nat → Int) : Nat → List (ByteArray × Int)
  | 0 => []
  | k + 1 => addS (built f g k) (f k) (g k)

/-- Is p among the names? -/
def has (l : List ByteArray) (p : ByteArray) : Bool := l.any fun x => decide (x = p)
theorem has_iff (l : List ByteArray) (p : ByteArray) : has l p = true ↔ p ∈ l := by simp [has]
theorem has_not (l : List ByteArray) (p : ByteArray) : has l p = false ↔ p ∉ l := by rw [← has_iff]; cases has l p <;> simp

/-- The names of the first k calls, each once, in the order of first naming. -/
def names (f : Nat → ByteArray) : Nat → List ByteArray
  | 0 => []
  | k + 1 => if has (names f k) (f k) = true then names f k else names f k ++ [f k]

/-- The wrapping sum of the amounts of one name among the first k calls. -/
def sumOf (f : Nat → ByteArray) (g : Nat → Int) (p : ByteArray) : Nat → Int
  | 0 => 0
  | k + 1 => if f k = p then wrap64 (sumOf f g p k + g k) else sumOf f g p k

theorem built_length_le (f : Nat → ByteArray) (g : Nat → Int) (k : Nat) : (built f g k).length ≤ k := by
  induction k with
  | zero => simp [built]
  | succ k ih => have := addS_length_le (built f g k) (f k) (g k); simp only [built]; omega

theorem names_length_le (f : Nat → ByteArray) (k : Nat) : (names f k).length ≤ k := by
  induction k with
  | zero => simp [names]
  | succ k ih => unfold names; split <;> (try simp) <;> omega

theorem names_nodup (f : Nat → ByteArray) (k : Nat) : (names f k).Nodup := by
  induction k with
  | zero => simp [names]
  | succ k ih =>
    unfold names
    split
    · exact ih
    · rename_i h
      rw [has_iff] at h
      rw [List.nodup_append]
      exact ⟨ih, by simp, fun a ha b hb => by simp at hb; subst hb; exact fun e => h (e ▸ ha)⟩

theorem addS_map_miss (l : List ByteArray) (S : ByteArray → Int) (p : ByteArray) (a : Int) (h : p ∉ l) : addS (l.map fun x => (x, S x)) p a = (l.map fun x => (x, S x)) ++ [(p, a)] := by
  induction l with
  | nil => rfl
  | cons x r ih =>
    simp at h
    simp [addS, ih h.2, Ne.symm h.1]

theorem addS_map_hit (l : List ByteArray) (S T : ByteArray → Int) (p : ByteArray) (a : Int) (hd : l.Nodup) (h : p ∈ l) (hT : T p = wrap64 (S p + a)) (hS : ∀ x, x ≠ p → T x = S x) :
    addS (l.map fun x => (x, S x)) p a = l.map fun x => (x, T x) := by
  induction l with
  | nil => simp at h
  | cons x r ih =>
    simp at hd
    by_cases e : x = p
    · subst e
      have : ∀ y ∈ r, (y, S y) = (y, T y) := fun y hy => by rw [hS y (fun e => hd.1 (e ▸ hy))]
      simp only [List.map_cons, addS, if_true, hT]
      rw [List.map_congr_left this]
    · have hr : p ∈ r := by simpa [Ne.symm e] using h
      simp only [List.map_cons, addS, if_neg e, ih hd.2 hr, hS x e]

theorem sumOf_zero (f : Nat → ByteArray) (g : Nat → Int) (p : ByteArray) (k : Nat) (h : p ∉ names f k) : sumOf f g p k = 0 := by
  induction k with
  | zero => rfl
  | succ k ih =>
    unfold names at h
    have hk : p ∉ names f k := by split at h <;> simp_all
    have hp : f k ≠ p := by
      intro e
      subst e
      split at h
      · rename_i h2; exact h ((has_iff _ _).1 h2)
      · simp at h
    simp [sumOf, hp, ih hk]

theorem wrap64_id (a : Int) (h1 : -9223372036854775808 ≤ a) (h2 : a ≤ 9223372036854775807) : wrap64 a = a := by
  unfold wrap64
  omega

theorem built_eq (f : Nat → ByteArray) (g : Nat → Int) (hg : ∀ k, -9223372036854775808 ≤ g k ∧ g k ≤ 9223372036854775807) (k : Nat) :
    built f g k = (names f k).map fun x => (x, sumOf f g x k) := by
  induction k with
  | zero => rfl
  | succ k ih =>
    simp only [built, ih]
    by_cases h : f k ∈ names f k
    · rw [addS_map_hit (names f k) (fun x => sumOf f g x k) (fun x => sumOf f g x (k + 1)) (f k) (g k) (names_nodup f k) h (by simp [sumOf]) (fun x hx => by simp [sumOf, Ne.symm hx])]
      simp [names, (has_iff _ _).2 h]
    · rw [addS_map_miss _ _ _ _ h]
      have h1 : ∀ x ∈ names f k, (x, sumOf f g x k) = (x, sumOf f g x (k + 1)) := fun x hx => by
        have : f k ≠ x := fun e => h (e ▸ hx)
        simp [sumOf, this]
      have h2 : sumOf f g (f k) (k + 1) = g k := by
        have := sumOf_zero f g (f k) k h
        simp only [sumOf, if_true, this]
        rw [Int.zero_add]
        exact wrap64_id _ (hg k).1 (hg k).2
      have h3 : ¬ has (names f k) (f k) = true := fun e => h ((has_iff _ _).1 e)
      simp only [names, if_neg h3, List.map_append, List.map_cons, List.map_nil, h2]
      rw [List.map_congr_left h1]

end Go.Proofs.Ybulkbyqg
