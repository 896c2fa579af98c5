/-
  THE WALKS of the two laws.
-/
import Derived.Test.YbulkbysyWalks
namespace Go.Proofs.Ybulkbysy
open Go.RowKit

theorem exact_any (a0 : Int) (a1 : ByteArray) (a2 : Int) (a3 : ByteArray) (h0 : 0 ≤ a0) (h1 : a0 ≤ 255) (h2 : 0 ≤ a2) (h3 : a2 ≤ 255) (w : World) :
    Calls Yba.prog 3 #[.int .u8 a0, .string a1, .int .u8 a2, .string a3] w fun e w' => e = .returned (.bool true) ∧ Below w.heap.size w w' := by
  go_enter Yba.func3, Yba.ntmps3
  go_wp2_with fail
  refine (cmd_any a0 a1 h0 h1 _).mono ?_
  rintro e w' ⟨⟨cmd, rfl⟩, rfl⟩
  go_wp2_with fail
  refine (reply_any a2 a3 h2 h3 _).mono ?_
  rintro e w' ⟨⟨reply, rfl⟩, rfl⟩
  go_wp2_with fail
  refine (unexp cmd reply _).mono ?_
  rintro e w1 ⟨v, rfl, he, hb⟩
  go_wp2_with fail
  refine (matches_any cmd reply v _ he).mono ?_
  rintro e w2 ⟨rfl, hb2⟩
  go_wp2
  go_ret
  exact ⟨rfl, hb.trans (hb2.mono hb.size)⟩

def isF (s : ByteArray) : Bool := s.toList == [102, 111, 117, 110, 100]
def isNF (s : ByteArray) : Bool := s.toList == [110, 111, 116, 95, 102, 111, 117, 110, 100]

theorem found_yes (cmd reply : ByteArray) (h : isF reply = true) (w : World) : Calls Yba.prog 9 #[.string cmd, .string reply] w fun e w' => e = .returned (.tuple #[.bool true, .nilIface]) ∧ w = w' := by
  simp only [isF] at h
  go_enter Yba.func9, Yba.ntmps9
  go_wp2
  go_ret2
  exact ⟨rfl, rfl⟩

theorem found_no (cmd reply : ByteArray) (h : isF reply = false) (h2 : isNF reply = true) (w : World) : Calls Yba.prog 9 #[.string cmd, .string reply] w fun e w' => e = .returned (.tuple #[.bool false, .nilIface]) ∧ w = w' := by
  simp only [isF, isNF] at h h2
  go_enter Yba.func9, Yba.ntmps9
  go_wp2
  go_ret2
  exact ⟨rfl, rfl⟩

theorem found_err (cmd reply : ByteArray) (h : isF reply = false) (h2 : isNF reply = false) (w : World) :
    Calls Yba.prog 9 #[.string cmd, .string reply] w fun e w' => ∃ v, e = .returned (.tuple #[.bool false, v]) ∧ Err w' cmd reply v ∧ Below w.heap.size w w' := by
  simp only [isF, isNF] at h h2
  go_enter Yba.func9, Yba.ntmps9
  go_wp2_with fail
  refine (unexp cmd reply _).mono ?_
  rintro e w1 ⟨v, rfl, he, hb⟩
  go_wp2
  go_ret2
  exact ⟨v, rfl, he, hb⟩

set_option maxHeartbeats 400000 in
theorem found_any (a0 : Int) (a1 : ByteArray) (a2 : Int) (a3 : ByteArray) (h0 : 0 ≤ a0) (h1 : a0 ≤ 255) (h2 : 0 ≤ a2) (h3 : a2 ≤ 255) (w : World) :
    Calls Yba.prog 4 #[.int .u8 a0, .string a1, .int .u8 a2, .string a3] w fun e w' => e = .returned (.bool true) ∧ Below w.heap.size w w' := by
  go_enter Yba.func4, Yba.ntmps4
  go_wp2_with fail
  refine (cmd_any a0 a1 h0 h1 _).mono ?_
  rintro e w' ⟨⟨cmd, rfl⟩, rfl⟩
  go_wp2_with fail
  refine (reply_any a2 a3 h2 h3 _).mono ?_
  rintro e w' ⟨⟨reply, rfl⟩, rfl⟩
  go_wp2_with fail
  cases hf : isF reply
  · cases hn : isNF reply
    · refine (found_err cmd reply hf hn _).mono ?_
      rintro e w1 ⟨v, rfl, he, hb⟩
      simp only [isF, isNF] at hf hn
      go_wp2_with fail
      refine (matches_any cmd reply v _ he).mono ?_
      rintro e w2 ⟨rfl, hb2⟩
      go_wp2
      go_ret
      exact ⟨rfl, hb.trans (hb2.mono hb.size)⟩
    · refine (found_no cmd reply hf hn _).mono ?_
      rintro e w1 ⟨rfl, rfl⟩
      simp only [isF, isNF] at hf hn
      go_wp2
      go_ret
      exact ⟨rfl, Below.refl _ _⟩
  · refine (found_yes cmd reply hf _).mono ?_
    rintro e w1 ⟨rfl, rfl⟩
    simp only [isF] at hf
    go_wp2
    go_ret
    exact ⟨rfl, Below.refl _ _⟩
end Go.Proofs.Ybulkbysy
