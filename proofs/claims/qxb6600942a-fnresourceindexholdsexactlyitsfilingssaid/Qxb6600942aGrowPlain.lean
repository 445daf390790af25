import Derived.Test.Qxb6600942aRepMap
import Derived.Test.Qxb6600942aClone
import Derived.Test.Qxb6600942aBytes
import Derived.Test.Qxb6600942aWalkA
namespace Go.Proofs.Qxb6600942a
open Go.RowKit
set_option linter.unusedVariables false

theorem clone_any (a : Option Addr) (n cap : Nat) (ss : List ByteArray) (w : World) (hS : Strs w a n cap ss) (hn : n ≤ 1048576) :
    Calls Try.prog 9 #[.slice a n cap] w fun e w' => ∃ a' : Option Addr, e = .returned (.slice a' n n) ∧ Strs w' a' n n ss ∧ Below w.heap.size w w' := by
  cases a with
  | none =>
    obtain ⟨rfl, rfl⟩ := hS.2.1 rfl
    refine (clone_nil 0 0 w).mono ?_
    rintro e w' ⟨rfl, rfl⟩
    exact ⟨none, rfl, hS, Below.refl _ _⟩
  | some x =>
    refine (clone_some x n cap ss w hS hn).mono ?_
    rintro e w' ⟨rfl, hown, hb⟩
    exact ⟨_, rfl, strs_of_own hS.1 hown, hb⟩

/-! ### plain facts on names -/
theorem nm_append_left {ss : List ByteArray} {x : ByteArray} {j : Nat} (h : j < ss.length) : nm (ss ++ [x]) j = nm ss j := by
  simp [nm, List.getD, List.getElem?_append_left h]
theorem nm_append_last (ss : List ByteArray) (x : ByteArray) : nm (ss ++ [x]) ss.length = x := by simp [nm, List.getD]
theorem nm_reverse {ss : List ByteArray} {j : Nat} (h : j < ss.length) : nm ss.reverse j = nm ss (ss.length - 1 - j) := by
  simp [nm, List.getD, List.getElem?_reverse h]
theorem dup_snoc (ss : List ByteArray) (x : ByteArray) : Dup (ss ++ [x]) ↔ Dup ss ∨ ∃ j, j < ss.length ∧ nm ss j = x := by
  constructor
  · rintro ⟨i, j, hij, hj, e⟩
    simp at hj
    by_cases h : j < ss.length
    · left
      rw [nm_append_left h, nm_append_left (by omega)] at e
      exact ⟨i, j, hij, h, e⟩
    · right
      have hjl : j = ss.length := by omega
      subst hjl
      rw [nm_append_last, nm_append_left hij] at e
      exact ⟨i, hij, e⟩
  · rintro (⟨i, j, hij, hj, e⟩ | ⟨j, hj, e⟩)
    · exact ⟨i, j, hij, by simp; omega, by rw [nm_append_left hj, nm_append_left (by omega)]; exact e⟩
    · exact ⟨j, ss.length, hj, by simp, by rw [nm_append_last, nm_append_left hj]; exact e⟩
theorem dup_reverse_of {ss : List ByteArray} (h : Dup ss) : Dup ss.reverse := by
  obtain ⟨i, j, hij, hj, e⟩ := h
  refine ⟨ss.length - 1 - j, ss.length - 1 - i, by omega, by simp; omega, ?_⟩
  rw [nm_reverse (by omega), nm_reverse (by omega), show ss.length - 1 - (ss.length - 1 - j) = j from by omega, show ss.length - 1 - (ss.length - 1 - i) = i from by omega]
  exact e.symm
theorem dup_reverse (ss : List ByteArray) : Dup ss.reverse ↔ Dup ss :=
  ⟨fun h => by have := dup_reverse_of h; rwa [List.reverse_reverse] at this, dup_reverse_of⟩
theorem size_le_slen (ss : List ByteArray) (i : Nat) : (nm ss i).size ≤ slen ss := by
  by_cases h : i < ss.length
  · have h1 := slen_take_succ ss i h
    have h2 := slen_take_le ss (i + 1)
    omega
  · have : nm ss i = ByteArray.empty := by simp [nm, List.getD, List.getElem?_eq_none (Nat.le_of_not_lt h)]
    rw [this]; simp

/-! ### rows of strings given by a function -/
def row (f : Nat → ByteArray) (n : Nat) : List Value := (List.range n).map fun j => .string (f j)
theorem row_length (f : Nat → ByteArray) (n : Nat) : (row f n).length = n := by simp [row]
theorem row_get (f : Nat → ByteArray) {n j : Nat} (h : j < n) : (row f n)[j]? = some (.string (f j)) := by simp [row, h]
theorem row_made (n : Nat) : (madeCells #[.string ByteArray.empty] (n * 1)).toList = row (fun _ => ByteArray.empty) n := by
  apply List.ext_getElem?
  intro j
  by_cases h : j < n
  · rw [row_get _ h]; simp [madeCells, h, Nat.mod_one]
  · rw [List.getElem?_eq_none (by simp [madeCells]; omega), List.getElem?_eq_none (by rw [row_length]; omega)]
theorem row_set (f : Nat → ByteArray) (n i : Nat) (v : ByteArray) : (row f n).set i (.string v) = row (fun j => if j = i then v else f j) n := by
  apply List.ext_getElem?
  intro j
  by_cases h : j < n
  · rw [List.getElem?_set, row_get _ h, row_get _ h, row_length]
    by_cases e : i = j
    · subst e; simp [h]
    · rw [if_neg e, if_neg (fun h => e h.symm)]
  · rw [List.getElem?_eq_none (by simp [row_length]; omega), List.getElem?_eq_none (by rw [row_length]; omega)]
theorem strs_of_row {w : World} {B g n cap : Nat} {ss : List ByteArray} {f : Nat → ByteArray} (hl : ss.length = n) (hf : ∀ j, j < n → f j = nm ss j) (h : w.ownsRow B 9 1 (.slice (some ⟨g, 0, none⟩) n cap) n (row f n)) : Strs w (some ⟨g, 0, none⟩) n cap ss := by
  refine ⟨hl, fun h => (by cases h), fun x hx j hj => ?_⟩
  cases hx
  rw [Addr.add_lit, Nat.zero_add, h.cellAt j (by omega), row_get _ hj, hf j hj]
/-- The cells of a list of names. -/
def texts (ss : List ByteArray) : List Value := ss.map Value.string
theorem strs_of_texts {w : World} {B g n cap : Nat} {ss : List ByteArray} (hl : ss.length = n) (h : w.ownsRow B 9 1 (.slice (some ⟨g, 0, none⟩) n cap) n (texts ss)) : Strs w (some ⟨g, 0, none⟩) n cap ss := by
  refine ⟨hl, fun h => (by cases h), fun x hx j hj => ?_⟩
  cases hx
  rw [Addr.add_lit, Nat.zero_add, h.cellAt j (by omega)]
  simp [texts, nm, List.getD, show j < ss.length by omega]
theorem texts_snoc (ss : List ByteArray) (k : Nat) (h : k < ss.length) : texts (ss.take k) ++ [.string (nm ss k)] = texts (ss.take (k + 1)) := by
  rw [List.take_succ_eq_append_getElem h, nm_get h]; unfold texts; rw [List.map_append]; rfl
end Go.Proofs.Qxb6600942a
