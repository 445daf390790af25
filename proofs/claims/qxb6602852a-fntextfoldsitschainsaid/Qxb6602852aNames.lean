/-
  WHAT THE WALKS OF THIS SEAT SHARE: slices of strings that came in or that the call made.
-/
import Derived.Test.Qxb6602852aRows
import Derived.WalkKit
import Derived.WalkSpells
import Derived.WalkLawsBesides
import Derived.WalkSmall
import Derived.Deep.QuietTactic
import Derived.BigQuiet
import Derived.Deep.LoopGhost
namespace Go.Proofs.Qxb6602852a
open Go.RowKit

theorem Try.info9 : (Try.prog.info? 9).map (fun i => (i.zero, i.size, i.bytes)) = some (some (.string ByteArray.empty), 1, 16) := by kernel_rfl

/-- The j-th name. -/
def nm (ss : List ByteArray) (j : Nat) : ByteArray := ss.getD j ByteArray.empty
theorem nm_get {ss : List ByteArray} {j : Nat} (h : j < ss.length) : nm ss j = ss[j] := by simp [nm, List.getD, h]

/-- A slice of strings: nil, or its elements ss lie at its address. -/
def Strs (w : World) (a : Option Addr) (n cap : Nat) (ss : List ByteArray) : Prop :=
  ss.length = n ∧ (a = none → n = 0 ∧ cap = 0) ∧ ∀ x, a = some x → ∀ j, j < n → w.cell? (x.add j) = some (.string (nm ss j))
theorem Strs.at {w : World} {a : Option Addr} {n cap : Nat} {ss : List ByteArray} (h : Strs w a n cap ss) {j : Nat} (hj : j < n) :
    ∃ yb yo, a = some ⟨yb, yo, none⟩ ∧ w.cell? ⟨yb, yo + j, none⟩ = some (.string (nm ss j)) ∧ yb < w.heap.size := by
  cases a with
  | none => have := (h.2.1 rfl).1; omega
  | some x =>
    have hc := h.2.2 x rfl j hj
    obtain ⟨yb, yo, spot⟩ := x
    have hspot : spot = none := by simpa [Addr.add] using World.cell?_spot (h.2.2 _ rfl 0 (by omega))
    subst hspot
    rw [Addr.add_lit] at hc
    exact ⟨yb, yo, rfl, hc, World.block_lt_of_cell? _ _ hc⟩
theorem Strs.later {w w' : World} {a : Option Addr} {n cap B : Nat} {ss : List ByteArray} (h : Strs w a n cap ss) (hb : Below B w w') (hB : w.heap.size ≤ B) : Strs w' a n cap ss := by
  refine ⟨h.1, h.2.1, fun x hx j hj => ?_⟩
  have hc := h.2.2 x hx j hj
  rw [hb.cell (Nat.lt_of_lt_of_le (World.block_lt_of_cell? _ _ hc) hB)]
  exact hc

/-- How many bytes the names take. -/
def slen : List ByteArray → Nat
  | [] => 0
  | s :: r => s.size + slen r
theorem slen_append (a b : List ByteArray) : slen (a ++ b) = slen a + slen b := by
  induction a with
  | nil => simp [slen]
  | cons x r ih => simp [slen, ih]; omega
theorem slen_take_succ (ss : List ByteArray) (k : Nat) (h : k < ss.length) : slen (ss.take (k + 1)) = slen (ss.take k) + (nm ss k).size := by
  rw [List.take_succ_eq_append_getElem h, slen_append, nm_get h]; simp [slen]
theorem slen_take_le (ss : List ByteArray) (k : Nat) : slen (ss.take k) ≤ slen ss := by
  have : slen (ss.take k ++ ss.drop k) = slen ss := by rw [List.take_append_drop]
  rw [slen_append] at this; omega

/-- The cells of a row of strings of which the first k are filled. -/
def mixed (ss : List ByteArray) (n k : Nat) : List Value := (List.range n).map fun j => .string (if j < k then nm ss j else ByteArray.empty)
theorem mixed_length (ss : List ByteArray) (n k : Nat) : (mixed ss n k).length = n := by simp [mixed]
theorem mixed_get (ss : List ByteArray) (n k j : Nat) (h : j < n) : (mixed ss n k)[j]? = some (.string (if j < k then nm ss j else ByteArray.empty)) := by simp [mixed, h]
theorem mixed_zero (ss : List ByteArray) (n : Nat) : (madeCells #[.string ByteArray.empty] (n * 1)).toList = mixed ss n 0 := by
  apply List.ext_getElem?
  intro j
  by_cases h : j < n
  · rw [mixed_get _ _ _ _ h]; simp [madeCells, h, Nat.mod_one]
  · rw [List.getElem?_eq_none (by simp [madeCells]; omega), List.getElem?_eq_none (by rw [mixed_length]; omega)]
theorem mixed_set (ss : List ByteArray) (n k : Nat) : (mixed ss n k).set k (.string (nm ss k)) = mixed ss n (k + 1) := by
  apply List.ext_getElem?
  intro j
  by_cases h : j < n
  · rw [List.getElem?_set, mixed_get _ _ _ _ h, mixed_get _ _ _ _ h, mixed_length]
    by_cases e : k = j
    · subst e; simp [h]
    · rw [if_neg e]
      have : (j < k + 1) = (j < k) := by simp; omega
      simp only [this]
  · rw [List.getElem?_eq_none (by simp [mixed_length]; omega), List.getElem?_eq_none (by rw [mixed_length]; omega)]
theorem strs_of_own {w : World} {B g n cap : Nat} {ss : List ByteArray} (hl : ss.length = n) (h : w.ownsRow B 9 1 (.slice (some ⟨g, 0, none⟩) n cap) n (mixed ss n n)) : Strs w (some ⟨g, 0, none⟩) n cap ss := by
  refine ⟨hl, fun h => (by cases h), fun x hx j hj => ?_⟩
  cases hx
  rw [Addr.add_lit, Nat.zero_add, h.cellAt j (by omega), mixed_get _ _ _ _ hj, if_pos hj]
theorem own_lt {w : World} {B g n cap : Nat} {e : TypeId} {size : Nat} {xs : List Value} (h : w.ownsRow B e size (.slice (some ⟨g, 0, none⟩) n cap) n xs) : g < w.heap.size := by
  rcases h.2 with ⟨h', _⟩ | ⟨g', cap', cur, h', _, hg, _⟩
  · simp at h'
  · simp only [Value.slice.injEq, Option.some.injEq, Addr.mk.injEq, and_true, true_and] at h'
    obtain ⟨rfl, rfl⟩ := h'
    exact (Array.getElem?_eq_some_iff.1 hg).1
end Go.Proofs.Qxb6602852a
