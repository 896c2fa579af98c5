/-
  THE CLOSED FACTS FOR A WALK OVER fmt.errorf's STOP, at this program's numbers (after the guide's CheckFmt.lean), and the contracts of the callees.
-/
import Derived.Test.YbulkbyqgFmtRows
import Derived.Stop.CallBack
import Derived.Stop.IfaceNil
import GoSem.ClaimData
import Derived.WalkKit
import Derived.WalkSpells
import Derived.WalkLawsBesides
import Derived.Outline
import Derived.Maps.OwnSet
import Derived.Maps.AppendAt
namespace Go.Proofs.YbulkbyqgFmt
open Go.RowKit Go.Extern.Stop Go.Stop Go.Extern Go.Maps

@[go_sem] theorem Ybaf.call7 (args : Array Value) (w : World) : (callFunc 7 args).run Ybaf.prog w = ((FmtStop.errorf #[9, 38] #[32] args).run Ybaf.prog w).andThen fun v w' => .ok (.value v) w' :=
  run_callFunc_extern Ybaf.func7 (by kernel_rfl) (by kernel_rfl) (by kernel_rfl) (by kernel_rfl) args w
@[go_sem] theorem Ybaf.guard (name : String) (w : World) : (FmtStop.guard name).run Ybaf.prog w = .ok () w := by kernel_rfl
-- the format, one operand
@[go_sem] theorem Ybaf.fmt0 : FmtStop.printed? ⟨#[112, 114, 111, 103, 114, 97, 109, 109, 101, 32, 37, 113, 32, 105, 115, 32, 110, 111, 116, 32, 105, 110, 32, 116, 104, 101, 32, 98, 111, 111, 107]⟩ 1 = some [(0, 113, false)] := by kernel_rfl
@[go_sem] theorem Ybaf.fmt0r (w : World) : (FmtDoors.printed ⟨#[112, 114, 111, 103, 114, 97, 109, 109, 101, 32, 37, 113, 32, 105, 115, 32, 110, 111, 116, 32, 105, 110, 32, 116, 104, 101, 32, 98, 111, 111, 107]⟩ 1).run Ybaf.prog w = .ok [(0, 113, false)] w := by kernel_rfl
def Ybaf.shape9 : List UInt8 := [12, 6, 0, 0, 0, 0, 0, 0, 0, 115, 116, 114, 105, 110, 103]
@[go_sem] theorem Ybaf.op9_113 (name : String) (x : ByteArray) (w : World) : (FmtStop.operand name false 113 false (.iface 9 (.string x))).run Ybaf.prog w = .ok (Ybaf.shape9, FmtStop.pack x.data.toList) w := by kernel_rfl
@[go_sem] theorem Ybaf.op9_113w (name : String) (x : ByteArray) (w : World) : (FmtStop.operand name true 113 false (.iface 9 (.string x))).run Ybaf.prog w = .ok (Ybaf.shape9, FmtStop.pack x.data.toList) w := by kernel_rfl
@[go_sem] theorem Ybaf.ptr41 (w : World) : (FmtStop.ptrTo "errors.errorString").run Ybaf.prog w = .ok 41 w := by kernel_rfl
@[go_sem] theorem Ybaf.elem41 (w : World) : (elemOf 41).run Ybaf.prog w = .ok 43 w := by kernel_rfl
@[go_sem] theorem Ybaf.ptr40 (w : World) : (FmtStop.ptrTo "fmt.wrapError").run Ybaf.prog w = .ok 40 w := by kernel_rfl
@[go_sem] theorem Ybaf.elem40 (w : World) : (elemOf 40).run Ybaf.prog w = .ok 62 w := by kernel_rfl

theorem grown_drew {w w' : World} {row : Option Nat} (h : w.grownBy w' row) : w.grownBy w'.drew row := ⟨h.os, h.tape, h.output, h.size, h.block⟩

theorem grown_setCell {w w' : World} (h : w.grownBy w' none) {p : Addr} (hp : w.heap.size ≤ p.block) (u : Value) : w.grownBy (w'.setCell p u) none :=
  ⟨h.os, h.tape, h.output, by simpa [World.setCell] using h.size, fun k hk hn => (Below.heap_setCell _ _ _ _ (by omega)).trans (h.block k hk hn)⟩

/-- 'zzs3750cprog': the entry's fields, copied. -/
theorem prog_any (s : ByteArray) (r f t : Int) (w : World) :
    Calls Ybaf.prog 4 #[.agg #[.string s, .int .i64 r, .int .i64 f, .int .i64 t]] w fun e w' => e = .returned (.agg #[.string s, .int .i64 r, .int .i64 f, .int .i64 t]) ∧ w.grownBy w' none := by
  go_enter Ybaf.func4, Ybaf.ntmps4
  go_wp2
  exact bodyPost_ret (v := .agg #[.string s, .int .i64 r, .int .i64 f, .int .i64 t]) (by simp [results, Ybaf.results4, go_sem]) rfl ⟨rfl, (World.grownBy_alloc _ _ _).trans (World.grownBy_alloc _ _ _)⟩

theorem errorf_any (F : Interp) (s : ByteArray) (b : Nat) (w : World) (hF : F.answers w.tape) (hc : w.cell? ⟨b, 0, none⟩ = some (.iface 9 (.string s))) :
    Calls Ybaf.prog 6 #[.string ⟨#[112, 114, 111, 103, 114, 97, 109, 109, 101, 32, 37, 113, 32, 105, 115, 32, 110, 111, 116, 32, 105, 110, 32, 116, 104, 101, 32, 98, 111, 111, 107]⟩, .slice (some ⟨b, 0, none⟩) 1 1] w fun e w' => (∃ b', e = .returned (.iface 41 (.pointer (some ⟨b', 0, none⟩)))) ∧ w.grownBy w' none := by
  have hF' := answers_open hF
  go_enter Ybaf.func6, Ybaf.ntmps6
  go_wp2
  go_ret
  exact ⟨⟨_, rfl⟩, grown_drew (World.grownBy_alloc _ _ _)⟩

/-- How an element of the map reads: as itself. -/
def R : Value → Option (DataW Value × List MemPlace) := fun v => some (.held v, [])
theorem law : Keyed Ybaf.prog 9 := string_keyed Ybaf.underlying9
def zeroV : Value := .agg #[.string ⟨#[]⟩, .int .i64 0, .int .i64 0, .int .i64 0]
theorem zeroE (w : World) : (zeroValue 27).run Ybaf.prog w = .ok zeroV w := by kernel_rfl

set_option maxHeartbeats 400000 in
/-- 'programmeNamed' where the map holds the name. -/
theorem named_hit (s : ByteArray) (B n : Nat) (D : DataW Value) (kl : Lit) (vs : ByteArray) (r f t : Int) (w : World) (hown : w.ownsMap Ybaf.prog 9 R B n D) (hkey : keyOf Ybaf.prog 9 (.string s) = some kl)
    (hh : Maps.has D kl = true) (hat : D.atKey kl (.held zeroV) = .held (.agg #[.string vs, .int .i64 r, .int .i64 f, .int .i64 t])) :
    Calls Ybaf.prog 5 #[.map (some B), .string s] w fun e w' => e = .returned (.tuple #[.agg #[.string vs, .int .i64 r, .int .i64 f, .int .i64 t], .nilIface]) ∧ w.grownBy w' none := by
  have hrun : (Instr.lookup 23 (.map (some B)) (.string s) true).run Ybaf.prog (w.alloc (.cells #[.string ⟨#[]⟩, .int .i64 0, .int .i64 0, .int .i64 0] 27)) = .ok (.tuple #[.agg #[.string vs, .int .i64 r, .int .i64 f, .int .i64 t], .bool true]) (w.alloc (.cells #[.string ⟨#[]⟩, .int .i64 0, .int .i64 0, .int .i64 0] 27)) := by
    obtain ⟨v, ps, h1, h2⟩ := (hown.alloc (.cells #[.string ⟨#[]⟩, .int .i64 0, .int .i64 0, .int .i64 0] 27)).look_ok law Ybaf.underlying23 (zeroE _) (zd := .held zeroV) (zp := []) rfl hkey
    rw [hat] at h2
    simp only [R, Option.some.injEq, Prod.mk.injEq, DataW.held.injEq] at h2
    rw [h1, hh, h2.1]
  clear hown hkey hh hat
  go_enter Ybaf.func5, Ybaf.ntmps5
  go_wp2
  exact bodyPost_ret (v := .tuple #[.agg #[.string vs, .int .i64 r, .int .i64 f, .int .i64 t], .nilIface]) (by simp [results, Ybaf.results5, go_sem]) rfl ⟨rfl, (World.grownBy_alloc _ _ _).trans (World.grownBy_alloc _ _ _)⟩

set_option maxHeartbeats 400000 in
/-- 'programmeNamed' where it does not. -/
theorem named_miss (F : Interp) (s : ByteArray) (B n : Nat) (D : DataW Value) (kl : Lit) (w : World) (hF : F.answers w.tape) (hown : w.ownsMap Ybaf.prog 9 R B n D) (hkey : keyOf Ybaf.prog 9 (.string s) = some kl)
    (hh : Maps.has D kl = false) :
    Calls Ybaf.prog 5 #[.map (some B), .string s] w fun e w' => (∃ b', e = .returned (.tuple #[zeroV, .iface 41 (.pointer (some ⟨b', 0, none⟩))])) ∧ w.grownBy w' none := by
  have hrun : (Instr.lookup 23 (.map (some B)) (.string s) true).run Ybaf.prog (w.alloc (.cells #[.string ⟨#[]⟩, .int .i64 0, .int .i64 0, .int .i64 0] 27)) = .ok (.tuple #[.agg #[.string ⟨#[]⟩, .int .i64 0, .int .i64 0, .int .i64 0], .bool false]) (w.alloc (.cells #[.string ⟨#[]⟩, .int .i64 0, .int .i64 0, .int .i64 0] 27)) := by
    obtain ⟨v, ps, h1, h2⟩ := (hown.alloc (.cells #[.string ⟨#[]⟩, .int .i64 0, .int .i64 0, .int .i64 0] 27)).look_ok law Ybaf.underlying23 (zeroE _) (zd := .held zeroV) (zp := []) rfl hkey
    rw [Maps.atKey_of_not_has hh] at h2
    simp only [R, Option.some.injEq, Prod.mk.injEq, DataW.held.injEq] at h2
    rw [h1, hh, h2.1]
    rfl
  clear hown hkey hh
  go_enter Ybaf.func5, Ybaf.ntmps5
  go_wp2_with fail
  refine (errorf_any F s _ _ (by exact hF) ?_).mono ?_
  · go_simp
  rintro e w1 ⟨⟨b', rfl⟩, hg⟩
  have hb1 : w1.heap[w.heap.size]? = some (.cells #[.string ⟨#[]⟩, .int .i64 0, .int .i64 0, .int .i64 0] 27 (0, 0)) := by
    rw [hg.block w.heap.size (by simp; omega) (by simp), Below.heap_alloc _ _ _ (by simp; omega), Below.heap_alloc _ _ _ (by simp)]
    exact heap_alloc_new w _
  have k0 : w1.cell? ⟨w.heap.size, 0, none⟩ = some (.string ⟨#[]⟩) := by simp [World.cell?, hb1]
  have k1 : w1.cell? ⟨w.heap.size, 1, none⟩ = some (.int .i64 0) := by simp [World.cell?, hb1]
  have k2 : w1.cell? ⟨w.heap.size, 2, none⟩ = some (.int .i64 0) := by simp [World.cell?, hb1]
  have k3 : w1.cell? ⟨w.heap.size, 3, none⟩ = some (.int .i64 0) := by simp [World.cell?, hb1]
  have f0 : w1.frozen? ⟨w.heap.size, 0, none⟩ = false := by simp [World.frozen?, hb1]
  have f1 : w1.frozen? ⟨w.heap.size, 1, none⟩ = false := by simp [World.frozen?, hb1]
  have f2 : w1.frozen? ⟨w.heap.size, 2, none⟩ = false := by simp [World.frozen?, hb1]
  have f3 : w1.frozen? ⟨w.heap.size, 3, none⟩ = false := by simp [World.frozen?, hb1]
  have hgw : w.grownBy w1 none := (((World.grownBy_alloc _ _ _).trans (World.grownBy_alloc _ _ _)).trans (World.grownBy_alloc _ _ _)).trans hg
  clear hg hb1 hrun
  go_wp2
  refine bodyPost_ret (v := .tuple #[zeroV, .iface 41 (.pointer (some ⟨b', 0, none⟩))]) ?_ rfl ⟨⟨b', rfl⟩, ?_⟩
  · simp [results, Ybaf.results5, go_sem, k0, k1, k2, k3, zeroV]
  · exact grown_setCell (grown_setCell (grown_setCell (grown_setCell hgw (Nat.le_refl _) _) (Nat.le_refl _) _) (Nat.le_refl _) _) (Nat.le_refl _) _
end Go.Proofs.YbulkbyqgFmt
