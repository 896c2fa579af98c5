/-
  The plain side of 'LawS3750CLookup': what a map holds that was filled entry by entry.
-/
import Derived.Maps.OwnSet
namespace Go.Proofs.YbulkbyqgFmt
open Go.Maps

/-- The programme of one entry. -/
def pv (N : Nat → ByteArray) (r f t : Nat → Int) (k : Nat) : Value := .agg #[.string (N k), .int .i64 (r k), .int .i64 (f k), .int .i64 (t k)]

/-- The map behind k stores. -/
def Dm (N : Nat → ByteArray) (V : Nat → Value) : Nat → DataW Value
  | 0 => .map []
  | k + 1 => (Dm N V k).put (.string (N k).data.toList) (.held (V k))

/-- The last of the first k entries of that name. -/
def lastOf (N : Nat → ByteArray) (key : ByteArray) : Nat → Option Nat
  | 0 => none
  | k + 1 => if N k = key then some k else lastOf N key k

theorem Dm_isMap (N : Nat → ByteArray) (V : Nat → Value) (k : Nat) : IsMap (Dm N V k) := by
  induction k with
  | zero => exact isMap_empty
  | succ k ih => exact ih.put _ _

theorem lit_ne {a b : ByteArray} (h : ¬ a = b) : (Lit.string b.data.toList) ≠ .string a.data.toList := by
  intro e
  apply h
  cases a; cases b
  simp only [Lit.string.injEq] at e
  simp only [ByteArray.mk.injEq]
  exact (Array.toList_inj.1 e).symm

theorem Dm_some (N : Nat → ByteArray) (V : Nat → Value) (key : ByteArray) (z : DataW Value) (n j : Nat) (h : lastOf N key n = some j) :
    Maps.has (Dm N V n) (.string key.data.toList) = true ∧ (Dm N V n).atKey (.string key.data.toList) z = .held (V j) := by
  induction n with
  | zero => simp [lastOf] at h
  | succ k ih =>
    unfold lastOf at h
    by_cases e : N k = key
    · rw [if_pos e] at h
      obtain rfl : k = j := by simpa using h
      subst e
      have hk : WideAt.IsKeyLit (.string (N k).data.toList) := trivial
      exact ⟨has_put_same (Dm_isMap N V k) hk _, atKey_put_same (Dm_isMap N V k) hk _ _⟩
    · rw [if_neg e] at h
      simp only [Dm]
      rw [has_put_other (lit_ne e), atKey_put_other (lit_ne e)]
      exact ih h

theorem Dm_none (N : Nat → ByteArray) (V : Nat → Value) (key : ByteArray) (n : Nat) (h : lastOf N key n = none) :
    Maps.has (Dm N V n) (.string key.data.toList) = false := by
  induction n with
  | zero => rfl
  | succ k ih =>
    unfold lastOf at h
    by_cases e : N k = key
    · rw [if_pos e] at h; simp at h
    · rw [if_neg e] at h
      simp only [Dm]
      rw [has_put_other (lit_ne e)]
      exact ih h

/-- No entry of that name behind the first k. -/
theorem lastOf_skip (N : Nat → ByteArray) (key : ByteArray) (n k : Nat) (hk : k ≤ n) (h : ∀ j, k ≤ j → j < n → ¬ N j = key) : lastOf N key n = lastOf N key k := by
  induction n with
  | zero =>
    have e : k = 0 := by omega
    subst e
    rfl
  | succ n ih =>
    by_cases e : k = n + 1
    · subst e; rfl
    · have := h n (by omega) (by omega)
      simp only [lastOf, if_neg this]
      exact ih (by omega) (fun j h1 h2 => h j h1 (by omega))

theorem lastOf_hit (N : Nat → ByteArray) (key : ByteArray) (n k : Nat) (hk : k < n) (h : ∀ j, k < j → j < n → ¬ N j = key) (hh : N k = key) : lastOf N key n = some k := by
  rw [lastOf_skip N key n (k + 1) (by omega) (fun j h1 h2 => h j (by omega) h2)]
  simp [lastOf, hh]

end Go.Proofs.YbulkbyqgFmt
