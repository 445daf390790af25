/-
  THE INDEX, PLAINLY: what one run of filings does to it.
-/
import Derived.Test.Qxb6600942aIxState
namespace Go.Proofs.Qxb6600942a
open Go.RowKit
set_option linter.unusedVariables false

/-- The steps. -/
def St.addName (σ : St) (b : ByteArray) : St := { σ with N := σ.N ++ [b] }
def St.addBk (σ : St) : St := { σ with nb := σ.nb + 1, it := upd σ.it σ.nb none, no := upd σ.no σ.nb 0 }
def St.setIt (σ : St) (i : Nat) (r : Nat × Nat) : St := { σ with it := upd σ.it i (some r) }
def St.addOb (σ : St) (i : Nat) : St := { σ with no := upd σ.no i (σ.no i + 1), ps := upd2 σ.ps i (σ.no i) [], rs := upd2 σ.rs i (σ.no i) [] }
def St.addP (σ : St) (i j : Nat) (p : ByteArray) : St := { σ with ps := upd2 σ.ps i j (σ.ps i j ++ [p]) }
def St.addL (σ : St) (i j : Nat) (r : Nat × Nat) : St := { σ with rs := upd2 σ.rs i j (σ.rs i j ++ [r]) }
def St.zero : St := ⟨[], 0, fun _ => none, fun _ => 0, fun _ _ => [], fun _ _ => []⟩

/-- Two filings of one place. -/
def same (f g : Fil) : Prop := f.b = g.b ∧ f.l = g.l ∧ f.p = g.p
theorem same_refl (f : Fil) : same f f := ⟨rfl, rfl, rfl⟩
theorem same_trans {f g h : Fil} (a : same f g) (b : same g h) : same f h := ⟨a.1.trans b.1, a.2.1.trans b.2.1, a.2.2.trans b.2.2⟩
theorem same_symm {f g : Fil} (a : same f g) : same g f := ⟨a.1.symm, a.2.1.symm, a.2.2.symm⟩

/-- Is a new bucket wanted for b? -/
def St.newB (σ : St) (b : ByteArray) : Prop := σ.nb = 0 ∨ nm σ.N (σ.nb - 1) ≠ b
/-- Is a new group wanted in the last bucket for p? -/
def St.newO (σ : St) (p : ByteArray) : Prop := σ.no (σ.nb - 1) = 0 ∨ (nm (σ.ps (σ.nb - 1) (σ.no (σ.nb - 1) - 1)) 0).size ≠ p.size
/-- What one run of filings does. -/
def St.step1 (σ : St) (b : ByteArray) (σ1 : St) : Prop := (σ.newB b ∧ σ1 = (σ.addName b).addBk) ∨ (¬ σ.newB b ∧ σ1 = σ)
def St.step2 (σ : St) (p : ByteArray) (σ2 : St) : Prop := (σ.newO p ∧ σ2 = σ.addOb (σ.nb - 1)) ∨ (¬ σ.newO p ∧ σ2 = σ)
def St.filed (σ : St) (f : Fil) (r : Nat × Nat) (σ' : St) : Prop := ∃ σ1, σ.step1 f.b σ1 ∧
  ((f.l = 1 ∧ σ' = σ1.setIt (σ1.nb - 1) r) ∨ (f.l ≠ 1 ∧ ∃ σ2, σ1.step2 f.p σ2 ∧ σ' = (σ2.addP (σ2.nb - 1) (σ2.no (σ2.nb - 1) - 1) f.p).addL (σ2.nb - 1) (σ2.no (σ2.nb - 1) - 1) r))
/-- How much there is at most. -/
structure Fits (m : Nat) (σ : St) : Prop where
  len : σ.N.length = σ.nb
  nb : σ.nb ≤ m
  no : ∀ i, i < σ.nb → σ.no i ≤ m
  ps : ∀ i j, i < σ.nb → j < σ.no i → 0 < (σ.ps i j).length ∧ (σ.ps i j).length ≤ m ∧ (σ.rs i j).length = (σ.ps i j).length

variable {w : World} {B X S n : Nat} {own : Nat → Tag} {st : Nat → Int} {σ : St} {g : Gh}
theorem IxM.xB (h : IxM w B X S n own st σ g) : w.cell? ⟨X, 1, none⟩ = some g.vB := by rw [h.hx.1.cellAt 1 (by omega)]; rfl
theorem IxM.xY (h : IxM w B X S n own st σ g) : w.cell? ⟨X, 2, none⟩ = some g.vY := by rw [h.hx.1.cellAt 2 (by omega)]; rfl
theorem IxM.x0 (h : IxM w B X S n own st σ g) : w.cell? ⟨X, 0, none⟩ = some (.slice none 0 0) := by rw [h.hx.1.cellAt 0 (by omega)]; rfl
theorem IxM.sC (h : IxM w B X S n own st σ g) {k : Nat} (hk : k < n) : w.cell? ⟨S, k, none⟩ = some (.int .i64 (st k)) := by rw [h.hs.1.cellAt k (by omega), ints_get _ hk]
theorem IxM.bC (h : IxM w B X S n own st σ g) {gb cb i : Nat} (hv : g.vB = .slice (some ⟨gb, 0, none⟩) σ.N.length cb) (hi : i < σ.N.length) : w.cell? ⟨gb, i, none⟩ = some (.string (nm σ.N i)) := by
  have h1 := h.hb.1
  rw [hv] at h1
  rw [h1.cellAt i (by omega)]; simp [texts, nm, List.getD, hi]
theorem IxM.yI (h : IxM w B X S n own st σ g) {gy cy i : Nat} (hv : g.vY = .slice (some ⟨gy, 0, none⟩) σ.nb cy) (hi : i < σ.nb) : w.cell? ⟨gy, i * 2, none⟩ = some (itv S (σ.it i)) := by
  have h1 := h.hy.1
  rw [hv] at h1
  rw [h1.cellAt _ (by omega), cells2_even _ _ hi]
theorem IxM.yO (h : IxM w B X S n own st σ g) {gy cy i : Nat} (hv : g.vY = .slice (some ⟨gy, 0, none⟩) σ.nb cy) (hi : i < σ.nb) : w.cell? ⟨gy, i * 2 + 1, none⟩ = some (g.vo i) := by
  have h1 := h.hy.1
  rw [hv] at h1
  rw [h1.cellAt _ (by omega), cells2_odd _ _ hi]
theorem IxM.oP (h : IxM w B X S n own st σ g) {go co i j : Nat} (hi : i < σ.nb) (hv : g.vo i = .slice (some ⟨go, 0, none⟩) (σ.no i) co) (hj : j < σ.no i) : w.cell? ⟨go, j * 2, none⟩ = some (g.vp i j) := by
  have h1 := (h.ho i hi).1
  rw [hv] at h1
  rw [h1.cellAt _ (by omega), cells2_even _ _ hj]
theorem IxM.oL (h : IxM w B X S n own st σ g) {go co i j : Nat} (hi : i < σ.nb) (hv : g.vo i = .slice (some ⟨go, 0, none⟩) (σ.no i) co) (hj : j < σ.no i) : w.cell? ⟨go, j * 2 + 1, none⟩ = some (g.vl i j) := by
  have h1 := (h.ho i hi).1
  rw [hv] at h1
  rw [h1.cellAt _ (by omega), cells2_odd _ _ hj]
theorem IxM.pC (h : IxM w B X S n own st σ g) {gp cp i j q : Nat} (hi : i < σ.nb) (hj : j < σ.no i) (hv : g.vp i j = .slice (some ⟨gp, 0, none⟩) (σ.ps i j).length cp) (hq : q < (σ.ps i j).length) : w.cell? ⟨gp, q, none⟩ = some (.string (nm (σ.ps i j) q)) := by
  have h1 := (h.hp i j hi hj).1
  rw [hv] at h1
  rw [h1.cellAt _ (by omega)]; simp [texts, nm, List.getD, hq]
theorem IxM.lC (h : IxM w B X S n own st σ g) {gl cl i j q : Nat} (hi : i < σ.nb) (hj : j < σ.no i) (hv : g.vl i j = .slice (some ⟨gl, 0, none⟩) (σ.rs i j).length cl) (hq : q < (σ.rs i j).length) : w.cell? ⟨gl, q, none⟩ = some (rv S ((σ.rs i j).getD q (0, 0))) := by
  have h1 := (h.hl i j hi hj).1
  rw [hv] at h1
  rw [h1.cellAt _ (by omega)]; simp [List.getD, hq]
end Go.Proofs.Qxb6600942a
