import Derived.Test.YbulkbyskDoorOneWalk
import Derived.Test.YbulkbyskDoorGlob
import Derived.Test.YbulkbyskDoorTie
import Derived.Test.YbulkbyskDoorCards
namespace Go.Proofs.YbulkbyskDoor
open Go.ChangeShapes Go.WideShapes Go.ChangeAt Go.WideMaps Go.WideElems Go.RowKit

namespace lawS3754BOne

theorem own : ownKnob Ybad.prog.godebug = none := by kernel_rfl

/-- The law, whatever the input. -/
theorem one_walk (tiv : Int) (net : Bool) (hold sel now : Int) (set : Bool) (d : Int) (w : World) (ht0 : 0 ≤ tiv) (ht1 : tiv ≤ 255) (hs0 : 0 ≤ sel) (hs1 : sel ≤ 255)
    (hn0 : -9223372036854775808 ≤ now) (hn1 : now ≤ 9223372036854775807) (hx0 : -9223372036854775808 ≤ d) (hx1 : d ≤ 9223372036854775807) (hG : GlobOK w.heap.size w) :
    Calls Ybad.prog 3 #[.int .u8 tiv, .bool net, .int .u8 hold, .int .u8 sel, .int .i64 now, .bool set, .int .i64 d] w fun e w' => e = .returned (.bool true) ∧ Chg (fun _ => False) w w' := by
  cases set
  · cases net
    · exact one_ff tiv hold sel now d w ht0 ht1 hs0 hs1 hn0 hn1 hG
    · exact one_tf tiv hold sel now d w ht0 ht1 hs0 hs1 hn0 hn1 hG
  · cases net
    · exact one_ft tiv hold sel now d w ht0 ht1 hs0 hs1 hn0 hn1 hx0 hx1 hG
    · exact one_tt tiv hold sel now d w ht0 ht1 hs0 hs1 hn0 hn1 hx0 hx1 hG

/-- The door's own heap meets the condition. -/
theorem door_met (os : Os) (args : Array Value) : laidMetH Ybad.prog laidL ((World.doorLaid Ybad.prog 103 os).forCall (fun _ _ => 0) ⟨#[], args, []⟩).memory :=
  laidMetH_of_parts3 (fuel := 8) (laidMet_of_run' 8 (by kernel_rfl) (by kernel_rfl)) (by kernel_rfl) (by kernel_rfl)

set_option maxRecDepth 100000 in
theorem lifted (os : Os) (started : os.Started) (H : Type) (enc : TypeId × Value → H) :
    ReturnsInHanded {} Ybad.checked os 3 .any (fun w args => (Rows.lawS3754BOneSpec.pre enc Ybad.prog Ybad.f3 [] false w args ∧ laidMetH Ybad.prog laidL w) ∧ sizedMet enc Ybad.prog Ybad.f3 (OpenSpec.ofChange Rows.lawS3754BOneSpec) false w args)
      (Rows.lawS3754BOneSpec.post enc Ybad.prog Ybad.f3 false true false false) := by
  refine returnsInHanded_of_change_and (C := Ybad.checked) (X := fun w _ => laidMetH Ybad.prog laidL w) (fun _ _ _ hh h => h.of_heap hh) own started (by kernel_rfl) Ybad.func3
    (ChangeSpec.witness_shaped (enc := enc) (C := Ybad.checked) (os := os) (X := fun w _ => laidMetH Ybad.prog laidL w) false (World.doorLaid Ybad.prog 103 os) #[.int .u8 0, .bool false, .int .u8 0, .int .u8 0, .int .i64 0, .bool false, .int .i64 0] 8 rfl (World.shaped_of_RefB (by kernel_rfl) (by kernel_rfl)) (by kernel_rfl) (by kernel_rfl) (by kernel_rfl) (door_met os _)) ?_
  intro W base args ds gs before hval0 hW _ _ hL _
  have hval : ∀ (j : Nat) t v, Ybad.f3.params[j]? = some t → args[j]? = some v → Value.okWide Ybad.prog W .any base t v := hval0
  have hW' := hW
  obtain ⟨p, q, hA0, hV, rfl, hfz, hnd⟩ := hW
  have hA : DataW.TrodAll enc Ybad.prog W 0 (fun _ => true) true Ybad.f3.params.toList args.toList ds p := hA0
  rw [Ybad.params3] at hA hval
  obtain ⟨v0, vs0, d0, ds0, p0, q0, hargs, rfl, rfl, h0, r0⟩ := trodAll_cons hA
  obtain ⟨v1, vs1, d1, ds1, p1, q1, rfl, rfl, rfl, h1, r1⟩ := trodAll_cons r0
  obtain ⟨v2, vs2, d2, ds2, p2, q2, rfl, rfl, rfl, h2, r2⟩ := trodAll_cons r1
  obtain ⟨v3, vs3, d3, ds3, p3, q3, rfl, rfl, rfl, h3, r3⟩ := trodAll_cons r2
  obtain ⟨v4, vs4, d4, ds4, p4, q4, rfl, rfl, rfl, h4, r4⟩ := trodAll_cons r3
  obtain ⟨v5, vs5, d5, ds5, p5, q5, rfl, rfl, rfl, h5, r5⟩ := trodAll_cons r4
  obtain ⟨v6, vs6, d6, ds6, p6, q6, rfl, rfl, rfl, h6, r6⟩ := trodAll_cons r5
  obtain ⟨rfl, rfl, rfl⟩ := trodAll_nil r6
  obtain rfl : args = #[v0, v1, v2, v3, v4, v5, v6] := by cases args; simp_all
  obtain ⟨a0, rfl, rfl, rfl, w0⟩ := open_int Ybad.underlying5 (hval 0 5 v0 rfl rfl) h0
  obtain ⟨a1, rfl, rfl, rfl⟩ := open_bool Ybad.underlying4 (hval 1 4 v1 rfl rfl) h1
  obtain ⟨a2, rfl, rfl, rfl, w2⟩ := open_int Ybad.underlying5 (hval 2 5 v2 rfl rfl) h2
  obtain ⟨a3, rfl, rfl, rfl, w3⟩ := open_int Ybad.underlying5 (hval 3 5 v3 rfl rfl) h3
  obtain ⟨a4, rfl, rfl, rfl, w4⟩ := open_int Ybad.underlying2 (hval 4 2 v4 rfl rfl) h4
  obtain ⟨a5, rfl, rfl, rfl⟩ := open_bool Ybad.underlying4 (hval 5 4 v5 rfl rfl) h5
  obtain ⟨a6, rfl, rfl, rfl, w6⟩ := open_int Ybad.underlying2 (hval 6 2 v6 rfl rfl) h6
  clear hA0 hval0
  obtain ⟨b00, b01⟩ := bounds_u8 w0
  obtain ⟨b30, b31⟩ := bounds_u8 w3
  obtain ⟨b40, b41⟩ := bounds_i64 w4
  obtain ⟨b60, b61⟩ := bounds_i64 w6
  obtain ⟨g0, t0, cs0, f0, e0, s0, g1, t1, cs1, f1, e1, s1, rfl, _⟩ := trodVars_two hV
  refine (one_walk a0 a1 a2 a3 a4 a5 a6 W b00 b01 b30 b31 b40 b41 b60 b61 (glob_of_laid hL)).mono fun e W' ⟨he, hch⟩ => ?_
  subst he
  have bel : Below W.heap.size W W' := hch.below (Nat.le_refl _) (fun _ x => x.elim)
  exact ⟨_, rfl, _, _, _, [], _, _, hW', trodAll_mk1 (shut_bool Ybad.underlying4 _), (trodAll_cons_mk (shut_int Ybad.underlying5 w0) (trodAll_cons_mk (shut_bool Ybad.underlying4 _) (trodAll_cons_mk (shut_int Ybad.underlying5 w2) (trodAll_cons_mk (shut_int Ybad.underlying5 w3) (trodAll_cons_mk (shut_int Ybad.underlying2 w4) (trodAll_cons_mk (shut_bool Ybad.underlying4 _) (trodAll_cons_mk (shut_int Ybad.underlying2 w6) trodAll_mk0))))))), Below.trodVars laidOut bel (by kernel_rfl) hV, bel.frame _, fun h => by cases h⟩

theorem row_holds : Rows.LawS3754BOneSaid :=
  OpenClaim.holds_of_wide 3 Ybad.f3 rfl rfl rfl rfl rfl rfl rfl ⟨rfl, rfl, rfl, rfl, rfl⟩ rfl rfl rfl rfl rfl (by kernel_rfl) Ybad.func3 (by kernel_rfl)
    (of_decide_eq_true (by kernel_rfl)) (by unfold Func.isWrapper; first | (rw [if_pos (by decide +kernel)]; kernel_rfl) | (rw [if_neg (by decide +kernel)]; exact ⟨rfl, rfl⟩))
    (fun os started H enc _ => lifted os started H enc)

/-- ████ THE STATEMENT ████ -/
theorem proved : Rows.LawS3754BOneCardSaid :=
  Claim7.holds_tied_plain_at .later [] [.mappedDeep, .mapped] true (true, "99dc2025aed018ab6ef479325867d7a3c6d082e03f9f78f1972b4ce5ac4f5519") true
    row_holds (fun _ h => by cases h) (by kernel_rfl) (fun _ h => by cases h) lawS3754BOne_row_tie rfl ⟨rfl, rfl⟩ (by kernel_rfl) rfl
    (fun f fn hf hfn => by
      obtain rfl : f = 3 := Option.some.inj ((show Ybad.prog.funcNamed "example.com/flashhook/flashhook/mobile.LawS3754BOne" = some 3 by kernel_rfl).symm.trans hf) |>.symm
      obtain rfl : fn = Ybad.f3 := (Option.some.inj (Ybad.func3.symm.trans hfn)).symm
      exact ⟨by kernel_rfl, fun j t ht => by
        rw [Ybad.params3] at ht
        have hm : t ∈ [5, 4, 2] := by
          have := Array.mem_of_getElem? ht
          simp at this
          rcases this with h | h | h | h | h | h <;> simp [h]
        have hall : ([5, 4, 2].all fun u => !Ybad.prog.wantsStandIn u) = true := by kernel_rfl
        exact (show Ybad.prog.wantsStandIn t = false by simpa using List.all_eq_true.1 hall t hm)⟩)
    (by kernel_rfl)
end lawS3754BOne
end Go.Proofs.YbulkbyskDoor
