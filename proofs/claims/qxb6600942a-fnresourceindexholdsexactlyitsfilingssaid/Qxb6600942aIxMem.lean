/-
  THE INDEX IN MEMORY: rows of the call's own, told apart by a mark on each block.
-/
import Derived.Test.Qxb6600942aFilBuild
import Derived.Test.Qxb6600942aGrowPlain
import Derived.Maps.AppendAt
namespace Go.Proofs.Qxb6600942a
open Go.RowKit
set_option linter.unusedVariables false

/-- Whose block it is. -/
abbrev Tag := Nat × Nat × Nat
/-- Value v owns the cells xs, and its block bears the mark t. -/
def RowAt (w : World) (B : Nat) (own : Nat → Tag) (t : Tag) (e size : Nat) (v : Value) (n : Nat) (xs : List Value) : Prop :=
  w.ownsRow B e size v n xs ∧ ∀ g, v.ownBlock = some g → own g = t
theorem block_lt {w : World} {B e size n : Nat} {v : Value} {xs : List Value} (h : w.ownsRow B e size v n xs) {g : Nat} (hg : v.ownBlock = some g) : g < w.heap.size := by
  rcases h.2 with ⟨rfl, _⟩ | ⟨g', cap, cur, rfl, _, hh, _⟩
  · simp [Value.ownBlock] at hg
  · simp [Value.ownBlock] at hg
    subst hg
    exact (Array.getElem?_eq_some_iff.1 hh).1
theorem RowAt.kept {w w' : World} {B : Nat} {own own' : Nat → Tag} {t : Tag} {e size n : Nat} {v : Value} {xs : List Value} {r : Option Nat} (h : RowAt w B own t e size v n xs)
    (hg : w.grownBy w' r) (hr : ∀ g, r = some g → own g ≠ t) (ho : ∀ g, g < w.heap.size → own' g = own g) : RowAt w' B own' t e size v n xs := by
  refine ⟨h.1.kept hg ?_, fun g hv => ?_⟩
  · cases hv : v.ownBlock with
    | none => exact .inl rfl
    | some g => exact .inr (fun e => hr g e.symm (h.2 g hv))
  · rw [ho g (block_lt h.1 hv)]; exact h.2 g hv
/-- A row that is nil. -/
theorem RowAt.nil (w : World) (B : Nat) (own : Nat → Tag) (t : Tag) (e size : Nat) : RowAt w B own t e size (.slice none 0 0) 0 [] :=
  ⟨World.ownsRow_nil w B e size, fun g hg => by simp [Value.ownBlock] at hg⟩
/-- The shape of an owned slice. -/
theorem RowAt.shape {w : World} {B : Nat} {own : Nat → Tag} {t : Tag} {e size n : Nat} {v : Value} {xs : List Value} (h : RowAt w B own t e size v n xs) :
    ∃ ao cap, v = .slice ao n cap ∧ n ≤ cap ∧ (0 < n → ∃ g, ao = some ⟨g, 0, none⟩) := by
  rcases h.1.2 with ⟨rfl, rfl⟩ | ⟨g, cap, cur, rfl, _, _, hc, _⟩
  · exact ⟨none, 0, rfl, Nat.le_refl _, fun h => by omega⟩
  · exact ⟨_, cap, rfl, hc, fun _ => ⟨g, rfl⟩⟩
/-- A store into a marked row. -/
theorem RowAt.stored {w : World} {B : Nat} {own : Nat → Tag} {t : Tag} {e size n g cap : Nat} {xs : List Value} (h : RowAt w B own t e size (.slice (some ⟨g, 0, none⟩) n cap) n xs) (c : Nat) (u : Value) :
    RowAt (w.setCell ⟨g, c, none⟩ u) B own t e size (.slice (some ⟨g, 0, none⟩) n cap) n (xs.set c u) ∧ w.grownBy (w.setCell ⟨g, c, none⟩ u) (some g) ∧ own g = t :=
  ⟨⟨(h.1.stored c u).1, h.2⟩, (h.1.stored c u).2, h.2 g rfl⟩
/-- The marks behind an append: what is new is t's. -/
def marks (own : Nat → Tag) (s : Nat) (t : Tag) : Nat → Tag := fun b => if b < s then own b else t
theorem marks_old {own : Nat → Tag} {s : Nat} {t : Tag} {b : Nat} (h : b < s) : marks own s t b = own b := by simp [marks, h]
theorem marks_new {own : Nat → Tag} {s : Nat} {t : Tag} {b : Nat} (h : s ≤ b) : marks own s t b = t := by simp [marks, Nat.not_lt.2 h]

/-- AN APPEND TO ROW t, AND THE NEW SLICE STORED INTO CELL c OF ROW t2: w1: behind the laying of the new elements; w2: behind the append. -/
theorem app_store {w w1 w2 : World} {B : Nat} {own : Nat → Tag} {t t2 : Tag} {e size n m : Nat} {v v' : Value} {xs news : List Value} {e2 size2 n2 g2 cap2 : Nat} {ys : List Value} (c : Nat)
    (h : RowAt w B own t e size v n xs) (h2 : RowAt w B own t2 e2 size2 (.slice (some ⟨g2, 0, none⟩) n2 cap2) n2 ys) (hne : t ≠ t2)
    (hg1 : w.grownBy w1 none) (hown : w2.ownsRow B e size v' (n + m) (xs ++ news)) (hg2 : w1.grownBy w2 v.ownBlock) (hloc : v'.ownBlock = v.ownBlock ∨ v'.ownBlock = some w1.heap.size) :
    RowAt (w2.setCell ⟨g2, c, none⟩ v') B (marks own w.heap.size t) t e size v' (n + m) (xs ++ news) ∧
    RowAt (w2.setCell ⟨g2, c, none⟩ v') B (marks own w.heap.size t) t2 e2 size2 (.slice (some ⟨g2, 0, none⟩) n2 cap2) n2 (ys.set c v') ∧
    ∀ (t' : Tag) (e' size' n' : Nat) (u : Value) (zs : List Value), t' ≠ t → t' ≠ t2 → RowAt w B own t' e' size' u n' zs → RowAt (w2.setCell ⟨g2, c, none⟩ v') B (marks own w.heap.size t) t' e' size' u n' zs := by
  have ho2 : ∀ g, g < w.heap.size → marks own w.heap.size t g = own g := fun g hg => marks_old hg
  have hgg : w.grownBy w2 v.ownBlock := ⟨hg2.os.trans hg1.os, hg2.tape.trans hg1.tape, hg2.output.trans hg1.output, Nat.le_trans hg1.size hg2.size,
    fun k hk hr => (hg2.block k (Nat.lt_of_lt_of_le hk hg1.size) hr).trans (hg1.block k hk (by simp))⟩
  have hvb : ∀ g, v.ownBlock = some g → own g = t := h.2
  -- all rows but t's, in w2
  have keep : ∀ (t' : Tag) (e' size' n' : Nat) (u : Value) (zs : List Value), t' ≠ t → RowAt w B own t' e' size' u n' zs → RowAt w2 B (marks own w.heap.size t) t' e' size' u n' zs := by
    intro t' e' size' n' u zs hne' hr
    exact hr.kept hgg (fun g hg e => hne' (by rw [← e]; exact hvb g hg)) ho2
  have k2 := keep t2 _ _ _ _ _ (fun e => hne e.symm) h2
  have kt : RowAt w2 B (marks own w.heap.size t) t e size v' (n + m) (xs ++ news) := by
    refine ⟨hown, fun g hg => ?_⟩
    rcases hloc with hl | hl
    · rw [hl] at hg
      rw [marks_old (block_lt h.1 hg)]; exact hvb g hg
    · rw [hl] at hg
      cases hg
      exact marks_new hg1.size
  obtain ⟨s1, s2, s3⟩ := k2.stored c v'
  refine ⟨kt.kept s2 (fun g hg e => hne (by cases hg; rw [← e]; exact s3)) (fun g _ => rfl), s1, fun t' e' size' n' u zs ha hb hr => ?_⟩
  exact (keep t' _ _ _ _ _ ha hr).kept s2 (fun g hg e => hb (by cases hg; rw [← e]; exact s3)) (fun g _ => rfl)
/-- A store into row t2 alone. -/
theorem store_only {w : World} {B : Nat} {own : Nat → Tag} {t2 : Tag} {e2 size2 n2 g2 cap2 : Nat} {ys : List Value} (c : Nat) (u : Value) (h2 : RowAt w B own t2 e2 size2 (.slice (some ⟨g2, 0, none⟩) n2 cap2) n2 ys) :
    RowAt (w.setCell ⟨g2, c, none⟩ u) B own t2 e2 size2 (.slice (some ⟨g2, 0, none⟩) n2 cap2) n2 (ys.set c u) ∧
    ∀ (t' : Tag) (e' size' n' : Nat) (x : Value) (zs : List Value), t' ≠ t2 → RowAt w B own t' e' size' x n' zs → RowAt (w.setCell ⟨g2, c, none⟩ u) B own t' e' size' x n' zs := by
  obtain ⟨s1, s2, s3⟩ := h2.stored c u
  exact ⟨s1, fun t' e' size' n' x zs hb hr => hr.kept s2 (fun g hg e => hb (by cases hg; rw [← e]; exact s3)) (fun g _ => rfl)⟩
theorem RowAt.drew {w : World} {B : Nat} {own : Nat → Tag} {t : Tag} {e size n : Nat} {v : Value} {xs : List Value} (h : RowAt w B own t e size v n xs) (m : Nat) : RowAt (w.drewN m) B own t e size v n xs := h

/-! ### cells in pairs -/
def cells2 (n : Nat) (f h : Nat → Value) : List Value := (List.range (n * 2)).map fun c => if c % 2 = 0 then f (c / 2) else h (c / 2)
def upd {α : Type} (f : Nat → α) (k : Nat) (u : α) : Nat → α := fun j => if j = k then u else f j
theorem upd_at {α : Type} (f : Nat → α) (k : Nat) (u : α) : upd f k u k = u := by simp [upd]
theorem upd_ne {α : Type} (f : Nat → α) {k j : Nat} (u : α) (h : j ≠ k) : upd f k u j = f j := by simp [upd, h]
theorem cells2_length (n : Nat) (f h : Nat → Value) : (cells2 n f h).length = n * 2 := by simp [cells2]
theorem cells2_get {n c : Nat} (f h : Nat → Value) (hc : c < n * 2) : (cells2 n f h)[c]? = some (if c % 2 = 0 then f (c / 2) else h (c / 2)) := by simp [cells2, hc]
theorem cells2_even {n j : Nat} (f h : Nat → Value) (hj : j < n) : (cells2 n f h)[j * 2]? = some (f j) := by
  rw [cells2_get _ _ (by omega), if_pos (by omega), show j * 2 / 2 = j from by omega]
theorem cells2_odd {n j : Nat} (f h : Nat → Value) (hj : j < n) : (cells2 n f h)[j * 2 + 1]? = some (h j) := by
  rw [cells2_get _ _ (by omega), if_neg (by omega), show (j * 2 + 1) / 2 = j from by omega]
theorem cells2_congr {n : Nat} {f h f' h' : Nat → Value} (a : ∀ j, j < n → f j = f' j) (b : ∀ j, j < n → h j = h' j) : cells2 n f h = cells2 n f' h' := by
  unfold cells2
  apply List.map_congr_left
  intro c hc
  rw [List.mem_range] at hc
  rw [a _ (by omega), b _ (by omega)]
theorem cells2_setE (n k : Nat) (f h : Nat → Value) (u : Value) : (cells2 n f h).set (k * 2) u = cells2 n (upd f k u) h := by
  apply List.ext_getElem?
  intro c
  by_cases hc : c < n * 2
  · rw [List.getElem?_set, cells2_get _ _ hc, cells2_get _ _ hc, cells2_length]
    by_cases e : k * 2 = c
    · subst e
      have a : k * 2 % 2 = 0 := by omega
      have b : k * 2 / 2 = k := by omega
      simp [hc, upd]
    · rw [if_neg e]
      by_cases p : c % 2 = 0
      · rw [if_pos p, if_pos p, upd_ne _ _ (by omega)]
      · rw [if_neg p, if_neg p]
  · rw [List.getElem?_eq_none (by simp [cells2_length]; omega), List.getElem?_eq_none (by rw [cells2_length]; omega)]
theorem cells2_setO (n k : Nat) (f h : Nat → Value) (u : Value) : (cells2 n f h).set (k * 2 + 1) u = cells2 n f (upd h k u) := by
  apply List.ext_getElem?
  intro c
  by_cases hc : c < n * 2
  · rw [List.getElem?_set, cells2_get _ _ hc, cells2_get _ _ hc, cells2_length]
    by_cases e : k * 2 + 1 = c
    · subst e
      have a : ¬ (k * 2 + 1) % 2 = 0 := by omega
      have b : (k * 2 + 1) / 2 = k := by omega
      simp [b, hc, upd]
    · rw [if_neg e]
      by_cases p : c % 2 = 0
      · rw [if_pos p, if_pos p]
      · rw [if_neg p, if_neg p, upd_ne _ _ (by omega)]
  · rw [List.getElem?_eq_none (by simp [cells2_length]; omega), List.getElem?_eq_none (by rw [cells2_length]; omega)]
theorem cells2_snoc (n : Nat) (f h : Nat → Value) (u0 u1 : Value) : cells2 n f h ++ [u0, u1] = cells2 (n + 1) (upd f n u0) (upd h n u1) := by
  apply List.ext_getElem?
  intro c
  by_cases hc : c < n * 2
  · rw [List.getElem?_append_left (by rw [cells2_length]; exact hc), cells2_get _ _ hc, cells2_get _ _ (by omega), upd_ne _ _ (by omega), upd_ne _ _ (by omega)]
  · rw [List.getElem?_append_right (by rw [cells2_length]; omega), cells2_length]
    by_cases e0 : c = n * 2
    · subst e0
      rw [cells2_even _ _ (by omega), upd_at]; simp
    · by_cases e1 : c = n * 2 + 1
      · subst e1
        rw [cells2_odd _ _ (by omega), upd_at]
        simp [show n * 2 + 1 - n * 2 = 1 from by omega]
      · rw [List.getElem?_eq_none (by simp; omega), List.getElem?_eq_none (by rw [cells2_length]; omega)]
end Go.Proofs.Qxb6600942a
