/-
  A SLICE OF FILINGS AS AN ARGUMENT, OPENED.
-/
import Derived.Test.Qxb6600942aFil
import Derived.Deep.Slices
import Derived.ProofKit
namespace Go.Proofs.Qxb6600942a
open Go.ChangeShapes Go.WideShapes Go.Deep Go.RowKit
set_option linter.unusedVariables false

theorem Try.cells53 : Try.prog.cellsOf 53 = 4 := by kernel_rfl
theorem Try.cells5 : Try.prog.cellsOf 5 = 1 := by kernel_rfl
theorem Try.cells9' : Try.prog.cellsOf 9 = 1 := by kernel_rfl
theorem Try.cells3' : Try.prog.cellsOf 3 = 1 := by kernel_rfl

theorem open_fil {H : Type} {enc : TypeId × Value → H} {w : World} {base fuel : Nat} {spare : Nat → Bool} {held : Bool} {cs : List Value} {x : DataW H × List MemPlace} (h : DataW.trod enc Try.prog w base spare held fuel 53 cs = some x) :
    ∃ f : Fil, cs = [.string f.b, .int .u8 f.l, .string f.p, .int .i64 f.s] := by
  obtain ⟨xs, k, _, _, hlen, hxl, hf⟩ := DataW.trod_struct Try.underlying53 h
  rw [Try.cells53] at hlen
  match xs, hxl, cs, hlen with
  | [y0, y1, y2, y3], _, [v0, v1, v2, v3], _ =>
    have g0 := hf 0 _ rfl
    have g1 := hf 1 _ rfl
    have g2 := hf 2 _ rfl
    have g3 := hf 3 _ rfl
    simp [Try.cells5, Try.cells9', Try.cells3'] at g0 g1 g2 g3
    obtain ⟨s0, h0, _⟩ := DataW.trod_string Try.underlying9 g0
    obtain ⟨n1, h1, _⟩ := DataW.trod_int Try.underlying5 g1
    obtain ⟨s2, h2, _⟩ := DataW.trod_string Try.underlying9 g2
    obtain ⟨n3, h3, _⟩ := DataW.trod_int Try.underlying3 g3
    simp at h0 h1 h2 h3
    exact ⟨⟨s0, n1, s2, n3⟩, by simp [h0, h1, h2, h3]⟩

theorem open_fils {H : Type} {enc : TypeId × Value → H} {w : World} {base fuel : Nat} {spare : Nat → Bool} {held : Bool} {a : Option Addr} {len cap : Nat} {x : DataW H × List MemPlace} (h : DataW.trod enc Try.prog w base spare held fuel 31 [.slice a len cap] = some x) :
    ∃ fs, Fils w a len cap fs ∧ len ≤ maxLen := by
  rcases open_slice Try.underlying31 h with ⟨h0, _⟩ | ⟨y, len', cap', m, nn, D, Pl, hcs, hb, hl, hm, hmm, _, hx⟩
  · simp at h0
    obtain ⟨rfl, rfl, rfl⟩ := h0
    exact ⟨[], ⟨rfl, fun _ => ⟨rfl, rfl⟩, fun h => by omega⟩, Nat.zero_le _⟩
  · simp at hcs
    obtain ⟨rfl, rfl, rfl⟩ := hcs
    have hlm : len ≤ m := by rw [hmm]; split <;> omega
    have each : ∀ i, i < len → ∃ f : Fil, w.cell? (y.add (i * 4)) = some (.string f.b) ∧ w.cell? (y.add (i * 4 + 1)) = some (.int .u8 f.l) ∧ w.cell? (y.add (i * 4 + 2)) = some (.string f.p) ∧ w.cell? (y.add (i * 4 + 3)) = some (.int .i64 f.s) := by
      intro i hi
      obtain ⟨cs', h1, h2⟩ := hx i (by omega)
      rw [Try.cells53] at h1
      obtain ⟨f, rfl⟩ := open_fil h2
      obtain ⟨_, _, hcell⟩ := World.cells?_some h1
      have e0 := hcell 0 (by omega)
      have e1 := hcell 1 (by omega)
      have e2 := hcell 2 (by omega)
      have e3 := hcell 3 (by omega)
      rw [add_add] at e0 e1 e2 e3
      exact ⟨f, by simpa using e0, by simpa using e1, by simpa using e2, by simpa using e3⟩
    letI : Inhabited Fil := ⟨fil0⟩
    obtain ⟨q, hq⟩ := choose_lt each
    refine ⟨(List.range len).map q, ⟨by simp, (fun h => by cases h), fun h0 => ?_⟩, by omega⟩
    obtain ⟨yb, yo, spot⟩ := y
    have hspot : spot = none := by simpa [Addr.add] using World.cell?_spot (hq 0 h0).1
    subst hspot
    refine ⟨yb, yo, rfl, fun j hj => ?_⟩
    have e : fl ((List.range len).map q) j = q j := by simp [fl, List.getD, hj]
    obtain ⟨c0, c1, c2, c3⟩ := hq j hj
    rw [Addr.add_lit] at c0 c1 c2 c3
    rw [e]
    exact ⟨c0, c1, c2, c3⟩
end Go.Proofs.Qxb6600942a
