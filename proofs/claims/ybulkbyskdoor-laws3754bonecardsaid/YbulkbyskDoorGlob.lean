import Derived.Test.YbulkbyskDoorExp
import Derived.ProofKit
import Derived.LaidMore
import Derived.OpenShut
import Derived.OpenVars
import Derived.Stop.Joined
import Derived.Maps.StringElems
namespace Go.Proofs.YbulkbyskDoor
open Go.ChangeShapes Go.WideShapes Go.ChangeAt Go.WideMaps Go.WideElems Go.RowKit

theorem gSup : Ybad.prog.globalNamed "example.com/flashhook/flashhook/call.supervisors" = some 0 := by kernel_rfl
theorem gDef : Ybad.prog.globalNamed "example.com/flashhook/flashhook/call.defaults" = some 1 := by kernel_rfl
theorem tSup : (Ybad.prog.globals[0]?).map (·.type) = some 76 := by kernel_rfl
theorem tDef : (Ybad.prog.globals[1]?).map (·.type) = some 28 := by kernel_rfl
abbrev supD : DataW Unit := Rows.laid_example_com_flashhook_flashhook_call_supervisors
abbrev defD : DataW Unit := Rows.laid_example_com_flashhook_flashhook_call_defaults
abbrev laidL : List (String × DataW Unit) := [("example.com/flashhook/flashhook/call.supervisors", supD), ("example.com/flashhook/flashhook/call.defaults", defD)]
def innD : DataW Unit := .map [(.int .u8 1, .lit (.string [84, 51, 48, 51])), (.int .u8 3, .lit (.string [84, 51, 49, 48])), (.int .u8 8, .lit (.string [84, 51, 49, 51]))]
theorem supD_at (z : DataW Unit) : supD.atKey (.int .u8 0) z = innD := rfl
theorem zero75 (w : World) : (zeroValue 75).run Ybad.prog w = .ok (.map none) w := by kernel_rfl
theorem zero40 (w : World) : (zeroValue 40).run Ybad.prog w = .ok (.string ⟨#[]⟩) w := by kernel_rfl

/-- The inner look-up, off the datum. -/
theorem inn_no (st : Int) (h : supHas st = false) (z : DataW Unit) : innD.atKey (.int .u8 st) z = z := by
  have h1 : st ≠ 1 := fun e => by subst e; simp [supHas] at h
  have h3 : st ≠ 3 := fun e => by subst e; simp [supHas] at h
  have h8 : st ≠ 8 := fun e => by subst e; simp [supHas] at h
  simp [innD, DataW.atKey, Lit.sameKey, Ne.symm h1, Ne.symm h3, Ne.symm h8]
theorem sup_cases {st : Int} (h : supHas st = true) : st = 1 ∨ st = 3 ∨ st = 8 := by simpa [supHas] using h
theorem inn_yes (st : Int) (h : supHas st = true) (z : DataW Unit) : innD.atKey (.int .u8 st) z = .lit (.string (supName st).data.toList) := by
  rcases sup_cases h with rfl | rfl | rfl <;> rfl
theorem def_yes (st : Int) (h : supHas st = true) (z : DataW Unit) : defD.atKey (.string (supName st).data.toList) z = .lit (.int .i64 30000000000) := by
  rcases sup_cases h with rfl | rfl | rfl <;> rfl
theorem supName_no (st : Int) (h : supHas st = false) : supName st = ⟨#[]⟩ := by
  have h1 : st ≠ 1 := fun e => by subst e; simp [supHas] at h
  have h3 : st ≠ 3 := fun e => by subst e; simp [supHas] at h
  have h8 : st ≠ 8 := fun e => by subst e; simp [supHas] at h
  simp [supName, h1, h3, h8]

theorem keyU8 {k : TypeId} (hk : Ybad.prog.underlying k = some (.int .u8)) (n : Int) (h0 : 0 ≤ n) (h1 : n ≤ 255) : keyOf Ybad.prog k (.int .u8 n) = some (.int .u8 n) := Maps.keyOf_int_mk hk (WalkArith.wf_u8 ⟨h0, h1⟩)

theorem bytes_inj {a b : ByteArray} (h : a.data.toList = b.data.toList) : a = b := by
  obtain ⟨⟨a⟩⟩ := a
  obtain ⟨⟨b⟩⟩ := b
  simpa using h

theorem map_form {v : Value} {b : Option Nat} (hf : Value.formed Ybad.prog 75 v = true) (hc : v.cells.toList = [.map b]) : v = .map b := by
  cases v <;> simp [Value.formed, Ybad.underlying75, Value.cells] at hf hc
  rw [hc]

/-- WHAT THE CONDITION GIVES THE WALKS. -/
theorem glob_of_laid {W : World} (h : laidMetH Ybad.prog laidL W) : GlobOK W.heap.size W := by
  rw [MakeChecks.laidMetH_plain _ _ _ (by kernel_rfl)] at h
  obtain ⟨ps, ⟨g0, t0, cs0, f0, p0, q0, hg0, ht0, hv0, hd0, ⟨g1, t1, cs1, f1, p1, q1, hg1, ht1, hv1, hd1, _, _⟩, _⟩, _, _⟩ := h
  obtain rfl := Option.some.inj (gSup.symm.trans hg0)
  obtain rfl := Option.some.inj (gDef.symm.trans hg1)
  obtain rfl := Option.some.inj (tSup.symm.trans ht0)
  obtain rfl := Option.some.inj (tDef.symm.trans ht1)
  rcases open_map Ybad.underlying76 hd0 with ⟨_, hx⟩ | ⟨b1, es, clock, m, rfl, hcs, hb, _, F, hx⟩
  · simp [supD, Rows.laid_example_com_flashhook_flashhook_call_supervisors] at hx
  rcases open_map Ybad.underlying28 hd1 with ⟨_, hx1⟩ | ⟨b3, es3, clock3, m3, rfl, hcs3, hb3, _, F3, hx3⟩
  · simp [defD, Rows.laid_example_com_flashhook_flashhook_call_defaults] at hx1
  simp only [Prod.mk.injEq] at hx hx3
  have hc0 : W.cell? ⟨0, 0, none⟩ = some (.map (some b1)) := by
    have := World.var?_cell hg0 hv0 0
    rw [Array.eq_one_of_toList hcs] at this
    simpa using this
  have hc1 : W.cell? ⟨1, 0, none⟩ = some (.map (some b3)) := by
    have := World.var?_cell hg1 hv1 0
    rw [Array.eq_one_of_toList hcs3] at this
    simpa using this
  refine ⟨by have := World.block_lt_of_cell? W _ hc1; simp at this; omega, b1, b3, hc0, hc1, fun W' hW => ⟨?_, fun st hst => ?_⟩⟩
  · have hb' : W'.heap[b1]? = some (.map es clock) := (hW b1 (lt_of_block hb)).trans hb
    rcases Maps.fit_look false (Maps.int_keyed Ybad.underlying41) Ybad.underlying76 (zero75 W') hb' F (keyU8 Ybad.underlying41 0 (by omega) (by omega)) with ⟨_, _, hat⟩ | ⟨e0, y, _, _, hrun, hRv, hat, _⟩
    · have := hat .nil
      rw [← hx.1, supD_at] at this
      exact absurd this (by intro e; cases e)
    · have hy := hat .nil
      rw [← hx.1, supD_at] at hy
      unfold elemAt at hRv
      split at hRv
      · rename_i hform
        rcases open_map Ybad.underlying75 hRv with ⟨_, hx2⟩ | ⟨b2, es2, clock2, m2, rfl, hcs2, hb2, _, F2, hx2⟩
        · rw [hx2] at hy; simp [innD] at hy
        · rw [hx2] at hy
          dsimp only at hy
          have hv : e0.val = .map (some b2) := map_form hform hcs2
          refine ⟨b2, by rw [hv] at hrun; exact hrun, fun st h0 h1 => ?_⟩
          have hb2' : W'.heap[b2]? = some (.map es2 clock2) := (hW b2 (lt_of_block hb2)).trans hb2
          rcases Maps.fit_look true (Maps.int_keyed Ybad.underlying44) Ybad.underlying75 (zero40 W') hb2' F2 (keyU8 Ybad.underlying44 st h0 h1) with ⟨hrun2, _, hat2⟩ | ⟨e2, y2, _, _, hrun2, hRv2, hat2, _⟩
          · have h3 := hat2 .nil
            rw [← hy] at h3
            by_cases hs : supHas st = true
            · rw [inn_yes st hs] at h3; cases h3
            · have hs' := Bool.eq_false_iff.2 hs
              rw [hs', supName_no st hs']
              exact hrun2
          · obtain ⟨s, hs1, hs2, _⟩ := elemAt_string Ybad.underlying40 hRv2
            have h3 := hat2 .nil
            rw [← hy] at h3
            by_cases hs : supHas st = true
            · rw [inn_yes st hs, hs2] at h3
              have he : supName st = s := bytes_inj (by simpa using h3)
              rw [hs, he, ← hs1]
              exact hrun2
            · have hs' := Bool.eq_false_iff.2 hs
              rw [inn_no st hs', hs2] at h3; cases h3
      · cases hRv
  · have hb3' : W'.heap[b3]? = some (.map es3 clock3) := (hW b3 (lt_of_block hb3)).trans hb3
    rcases Maps.fit_look true law40 Ybad.underlying28 (zero37 W') hb3' F3 (keyOf_string_mk (s := supName st) Ybad.underlying40 (supName_size st)) with ⟨_, _, hat⟩ | ⟨e0, y, _, _, hrun, hRv, hat, _⟩
    · have := hat .nil
      rw [← hx3.1, def_yes st hst] at this
      cases this
    · obtain ⟨r, hr, rfl, _⟩ := elemAt_int Ybad.underlying37 hRv
      have := hat .nil
      rw [← hx3.1, def_yes st hst] at this
      cases this
      rw [hr] at hrun
      exact hrun
end Go.Proofs.YbulkbyskDoor
