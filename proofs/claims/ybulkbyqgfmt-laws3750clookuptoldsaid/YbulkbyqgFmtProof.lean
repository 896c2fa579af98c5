/-
  THE TOLD CARD OF 'book.LawS3750CLookup', closed (after the guide's HexbadTold.lean, HexbadSeven.lean): the law's answer hangs on no text of fmt's: for every F the call returns true.
-/
import Derived.Test.YbulkbyqgFmtCards
import Derived.Test.YbulkbyqgFmtEdge
import Derived.ProofKit
import Derived.OpenShut
import Derived.ShutString
import Derived.ChangeOld
import Derived.Below
import Derived.Deep.Slices
import Derived.Lib.SmallJoins
import Derived.Stop.JoinedAt
import Derived.Stop.Texts
import Derived.Stop.JoinedTold
import Derived.SevenToldRow
namespace Go.Proofs.YbulkbyqgFmt
open Go.ChangeShapes Go.WideShapes Go.ChangeAt Go.RowKit Go.Kit
open Go.Extern.Stop Go.Stop Go.Extern
open Go.ChangeMaps (open_string shut_string)

theorem own : ownKnob Ybaf.prog.godebug = none := by kernel_rfl
theorem laidOut : laidOutB Ybaf.prog = true := by kernel_rfl
theorem Ybaf.cells30 : Ybaf.prog.cellsOf 30 = 4 := by kernel_rfl
theorem Ybaf.cells9 : Ybaf.prog.cellsOf 9 = 1 := by kernel_rfl
theorem Ybaf.cells2 : Ybaf.prog.cellsOf 2 = 1 := by kernel_rfl
theorem Ybaf.cells3 : Ybaf.prog.cellsOf 3 = 1 := by kernel_rfl

/-- One entry out of its reading. -/
theorem entry_of {H : Type} {enc : TypeId × Value → H} {W : World} {spare : Nat → Bool} {held : Bool} {n : Nat} {b o k : Nat} {cs : List Value} {x : DataW H × List MemPlace}
    (h1 : W.cells? 0 ((⟨b, o, none⟩ : Addr).add (k * 4)) 4 = some cs) (h2 : DataW.trod enc Ybaf.prog W 0 spare held n 30 cs = some x) :
    ∃ (s : ByteArray) (r f t : Int), s.size ≤ maxLen ∧ W.cell? ⟨b, o + k * 4, none⟩ = some (.string s) ∧ W.cell? ⟨b, o + k * 4 + 1, none⟩ = some (.int .i64 r) ∧ W.cell? ⟨b, o + k * 4 + 2, none⟩ = some (.int .i64 f) ∧ W.cell? ⟨b, o + k * 4 + 3, none⟩ = some (.int .i64 t) := by
  obtain ⟨_, hlen, hcell⟩ := World.cells?_some h1
  obtain ⟨y0, y1, y2, y3, m, _, _, g0, g1, g2, g3⟩ := Joins.trod_struct4 Ybaf.underlying30 h2
  match cs, hlen with
  | [v0, v1, v2, v3], _ =>
    simp [Ybaf.cells9, Ybaf.cells2, Ybaf.cells3] at g0 g1 g2 g3
    obtain ⟨s, e0, _, hs⟩ := DataW.trod_string Ybaf.underlying9 g0
    obtain ⟨r, e1, _, _⟩ := DataW.trod_int Ybaf.underlying2 g1
    obtain ⟨f, e2, _, _⟩ := DataW.trod_int Ybaf.underlying3 g2
    obtain ⟨t, e3, _, _⟩ := DataW.trod_int Ybaf.underlying3 g3
    simp at e0 e1 e2 e3
    subst e0 e1 e2 e3
    have c0 := hcell 0 (by omega)
    have c1 := hcell 1 (by omega)
    have c2 := hcell 2 (by omega)
    have c3 := hcell 3 (by omega)
    simp only [add_plain] at c0 c1 c2 c3
    exact ⟨s, r, f, t, hs, by simpa using c0, by simpa [Nat.add_assoc] using c1, by simpa [Nat.add_assoc] using c2, by simpa [Nat.add_assoc] using c3⟩

/-- The walk, whatever the input. -/
theorem walk {H : Type} {enc : TypeId × Value → H} (F : Interp) (a0 : Option Addr) (len cap : Nat) (nam : ByteArray) (pk : Int) (W : World) (hF : F.answers W.tape) (hnam : nam.size ≤ maxLen) (hp : (Lit.int .u8 pk).wf = true)
    {spare : Nat → Bool} {held : Bool} {fuel : Nat} {x : DataW H × List MemPlace} (hf : DataW.trod enc Ybaf.prog W 0 spare held fuel 22 [.slice a0 len cap] = some x) :
    Calls Ybaf.prog 3 #[.slice a0 len cap, .string nam, .int .u8 pk] W fun e w' => e = .returned (.bool true) ∧ Below W.heap.size W w' := by
  obtain ⟨p0, p1⟩ := bounds_u8 hp
  by_cases hl : 1024 < len
  · exact look_long a0 len cap nam pk W hl
  by_cases hz : len = 0
  · subst hz
    exact look_zero F a0 cap nam pk W hF hnam p0 p1
  rcases Deep.open_slice Ybaf.underlying22 hf with ⟨hcs, _⟩ | ⟨a, len', cap', m, n, D, Pl, hcs, _, hlc, _, hm, _, hx⟩
  · simp at hcs; omega
  simp at hcs
  obtain ⟨rfl, rfl, rfl⟩ := hcs
  have hlm : len ≤ m := by rw [hm]; split <;> omega
  rw [Ybaf.cells30] at hx
  obtain ⟨b, o, spot⟩ := a
  have hspot : spot = none := by
    obtain ⟨cs, h1, _⟩ := hx 0 (by omega)
    obtain ⟨_, hlen, hcell⟩ := World.cells?_some h1
    have c0 := hcell 0 (by omega)
    rw [List.getElem?_eq_getElem (by omega)] at c0
    simpa [Addr.add] using World.cell?_spot c0
  subst hspot
  obtain ⟨q, hq⟩ := Deep.choose_lt (α := ByteArray × Int × Int × Int) (n := len) (p := fun k v => v.1.size ≤ maxLen ∧ W.cell? ⟨b, o + k * 4, none⟩ = some (.string v.1) ∧ W.cell? ⟨b, o + k * 4 + 1, none⟩ = some (.int .i64 v.2.1) ∧ W.cell? ⟨b, o + k * 4 + 2, none⟩ = some (.int .i64 v.2.2.1) ∧ W.cell? ⟨b, o + k * 4 + 3, none⟩ = some (.int .i64 v.2.2.2)) (fun k hk => by
    obtain ⟨cs, h1, h2⟩ := hx k (by omega)
    obtain ⟨s, r, f, t, h⟩ := entry_of h1 h2
    exact ⟨(s, r, f, t), h⟩)
  exact look_core F b o len cap (fun k => (q k).1) (fun k => (q k).2.1) (fun k => (q k).2.2.1) (fun k => (q k).2.2.2) nam pk W hF (by omega) (by omega) hnam (fun k hk => (hq k hk).1) (fun k hk => (hq k hk).2)
    (World.block_lt_of_cell? W _ (hq 0 (by omega)).2.1) p0 p1

set_option maxRecDepth 100000 in
theorem lifted (os : Os) (started : os.Started) (H : Type) (enc : TypeId × Value → H) :
    ReturnsInTold none {} Ybaf.checked os 3 .any Input.okWide ((OpenSpec.ofChange Rows.lawS3750CLookupSpec).preRow enc Ybaf.prog Ybaf.f3 [] false []) (fun F => ((OpenSpec.ofChange Rows.lawS3750CLookupSpec).at F).post enc Ybaf.prog Ybaf.f3 false true false false) (aloneAtReturn Ybaf.prog) nothingAlways := by
  refine returnsInTold_of_row (C := Ybaf.checked) (s := OpenSpec.ofChange Rows.lawS3750CLookupSpec) (by kernel_rfl) own started (by kernel_rfl) Ybaf.func3
    (OpenSpec.witness_stopped (enc := enc) (C := Ybaf.checked) false ⟨#[], #[.slice none 0 0, .string ⟨#[]⟩, .int .u8 0], []⟩ 8 (by kernel_rfl) (by kernel_rfl) (by kernel_rfl) (by kernel_rfl)) ?_
  intro F W base args ds gs before _ hF hval0 hW _ _ _ _ _
  have hval : ∀ (j : Nat) t v, Ybaf.f3.params[j]? = some t → args[j]? = some v → Value.okWide Ybaf.prog W .any base t v := hval0
  have hW' := hW
  obtain ⟨p, q, hA0, hV, rfl, hfz, hnd⟩ := hW
  have hA : DataW.TrodAll enc Ybaf.prog W 0 (fun _ => true) true Ybaf.f3.params.toList args.toList ds p := hA0
  rw [Ybaf.params3] at hA hval
  obtain ⟨v0, v1, v2, d0, d1, d2, p0, p1, p2, rfl, rfl, rfl, h0, h1, h2⟩ := trodAll_three hA
  obtain ⟨rfl, rfl⟩ := trodVars_none hV
  obtain ⟨a0, len, cap, rfl⟩ := okWide_slice Ybaf.underlying22 (hval 0 22 v0 rfl rfl)
  obtain ⟨nam, rfl, rfl, rfl, hs⟩ := open_string Ybaf.underlying9 (hval 1 9 v1 rfl rfl) h1
  obtain ⟨pk, rfl, rfl, rfl, wp⟩ := open_int Ybaf.underlying5 (hval 2 5 v2 rfl rfl) h2
  have k0 := h0
  have lt0 : ∀ x ∈ p0, x.block < W.heap.size := by obtain ⟨m, hm⟩ := k0; exact DataW.trod_lt m _ _ _ hm
  obtain ⟨fuel, hf⟩ := h0
  clear hA0 hval0
  refine (walk F.told a0 len cap nam pk W hF hs wp (by simpa [Value.cells] using hf)).mono fun e W' ⟨he, bel⟩ => ?_
  subst he
  exact ⟨_, rfl, _, _, _, [], _, [], hW', trodAll_mk1 (shut_bool Ybaf.underlying4 _), (trodAll_cons_mk (Below.trod laidOut (by kernel_rfl) (of_decide_eq_true (by kernel_rfl)) k0 bel lt0) (trodAll_cons_mk (shut_string Ybaf.underlying9 hs) (trodAll_cons_mk (shut_int Ybaf.underlying5 wp) trodAll_mk0))), rfl, bel.frame _, fun h => by cases h⟩

theorem Ybaf.stops : Ybaf.pinned.checked.prog.stops = ["fmt.errorf"] := by kernel_rfl
theorem Ybaf.stopKnobs : Ybaf.pinned.checked.prog.stopKnobs = [] := by kernel_rfl
theorem Ybaf.quiet (os : Os) : Stop.quiet Ybaf.pinned.checked.prog os := by
  intro k hk
  rw [Ybaf.stopKnobs] at hk
  cases hk

theorem proved : Rows.LawS3750CLookupToldSaid :=
  Claim7.holds_of_told_any 3 Ybaf.f3 "fmt.errorf" [] [] _ _ _ (by kernel_rfl) rfl rfl rfl laidOut (by kernel_rfl) rfl ⟨rfl, rfl, rfl, rfl, rfl, rfl, rfl⟩ rfl rfl (by kernel_rfl) (by kernel_rfl) Ybaf.func3 (by kernel_rfl)
    (of_decide_eq_true (by kernel_rfl)) (of_decide_eq_true (by kernel_rfl)) Ybaf.stops.symm rfl Ybaf.stopKnobs.symm (by kernel_rfl)
    (by kernel_rfl) (by kernel_rfl) (by kernel_rfl) (by kernel_rfl) (by kernel_rfl) (by kernel_rfl) (by kernel_rfl) (by kernel_rfl) (by kernel_rfl) rfl (by kernel_rfl) rfl rfl
    rfl rfl
    rfl (by kernel_rfl) (by kernel_rfl) (by kernel_rfl) (by decide) (by kernel_rfl)
    (OpenClaim.moreEntering_of (by kernel_rfl) (by kernel_rfl) (by kernel_rfl) (by kernel_rfl) (by kernel_rfl) (by kernel_rfl) (by kernel_rfl) (by kernel_rfl) (by kernel_rfl) (by kernel_rfl))
    ⟨_, WideRow.started_initial, Ybaf.quiet _⟩
    (fun os started _ H enc _ => lifted os started H enc)
#print axioms proved
end Go.Proofs.YbulkbyqgFmt
