/-
  FILINGS IN MEMORY: four cells each (bucket, level, path head, statement).
-/
import Derived.Test.Qxb6600942aCompare
namespace Go.Proofs.Qxb6600942a
open Go.RowKit
set_option linter.unusedVariables false

structure Fil where
  b : ByteArray
  l : Int
  p : ByteArray
  s : Int
def fil0 : Fil := ⟨ByteArray.empty, 0, ByteArray.empty, 0⟩
def fl (fs : List Fil) (j : Nat) : Fil := fs.getD j fil0
theorem fl_get {fs : List Fil} {j : Nat} (h : j < fs.length) : fl fs j = fs[j] := by simp [fl, List.getD, h]

/-- Filing f lies at block yb, offset o. -/
structure FilAt (w : World) (yb o : Nat) (f : Fil) : Prop where
  c0 : w.cell? ⟨yb, o, none⟩ = some (.string f.b)
  c1 : w.cell? ⟨yb, o + 1, none⟩ = some (.int .u8 f.l)
  c2 : w.cell? ⟨yb, o + 2, none⟩ = some (.string f.p)
  c3 : w.cell? ⟨yb, o + 3, none⟩ = some (.int .i64 f.s)
theorem FilAt.of_block {w w' : World} {yb o : Nat} {f : Fil} (h : FilAt w yb o f) (e : w'.heap[yb]? = w.heap[yb]?) : FilAt w' yb o f :=
  ⟨(World.cell?_of_block (a := ⟨yb, o, none⟩) e).trans h.c0, (World.cell?_of_block (a := ⟨yb, o + 1, none⟩) e).trans h.c1, (World.cell?_of_block (a := ⟨yb, o + 2, none⟩) e).trans h.c2, (World.cell?_of_block (a := ⟨yb, o + 3, none⟩) e).trans h.c3⟩
theorem FilAt.lt {w : World} {yb o : Nat} {f : Fil} (h : FilAt w yb o f) : yb < w.heap.size := World.block_lt_of_cell? _ _ h.c0

/-- A slice of filings: nil, or they lie at its address. -/
def Fils (w : World) (a : Option Addr) (n cap : Nat) (fs : List Fil) : Prop :=
  fs.length = n ∧ (a = none → n = 0 ∧ cap = 0) ∧ (0 < n → ∃ yb yo, a = some ⟨yb, yo, none⟩ ∧ ∀ j, j < n → FilAt w yb (yo + j * 4) (fl fs j))
theorem Fils.at {w : World} {a : Option Addr} {n cap : Nat} {fs : List Fil} (h : Fils w a n cap fs) {j : Nat} (hj : j < n) : ∃ yb yo, a = some ⟨yb, yo, none⟩ ∧ FilAt w yb (yo + j * 4) (fl fs j) ∧ yb < w.heap.size := by
  obtain ⟨yb, yo, h1, h2⟩ := h.2.2 (by omega)
  exact ⟨yb, yo, h1, h2 j hj, (h2 j hj).lt⟩
theorem Fils.two {w : World} {a : Option Addr} {n cap : Nat} {fs : List Fil} (h : Fils w a n cap fs) {i j : Nat} (hi : i < n) (hj : j < n) : ∃ yb yo, a = some ⟨yb, yo, none⟩ ∧ FilAt w yb (yo + i * 4) (fl fs i) ∧ FilAt w yb (yo + j * 4) (fl fs j) ∧ yb < w.heap.size := by
  obtain ⟨yb, yo, h1, h2⟩ := h.2.2 (by omega)
  exact ⟨yb, yo, h1, h2 i hi, h2 j hj, (h2 j hj).lt⟩
theorem Fils.later {w w' : World} {a : Option Addr} {n cap B : Nat} {fs : List Fil} (h : Fils w a n cap fs) (hb : Below B w w') (hB : w.heap.size ≤ B) : Fils w' a n cap fs := by
  refine ⟨h.1, h.2.1, fun hn => ?_⟩
  obtain ⟨yb, yo, h1, h2⟩ := h.2.2 hn
  exact ⟨yb, yo, h1, fun j hj => (h2 j hj).of_block (hb.block yb (Nat.lt_of_lt_of_le (h2 j hj).lt hB))⟩

/-- How many bytes the filings' texts take. -/
def flen : List Fil → Nat
  | [] => 0
  | f :: r => f.b.size + f.p.size + flen r
theorem flen_append (a b : List Fil) : flen (a ++ b) = flen a + flen b := by
  induction a with
  | nil => simp [flen]
  | cons x r ih => simp [flen, ih]; omega
theorem flen_take_succ (fs : List Fil) (k : Nat) (h : k < fs.length) : flen (fs.take (k + 1)) = flen (fs.take k) + (fl fs k).b.size + (fl fs k).p.size := by
  rw [List.take_succ_eq_append_getElem h, flen_append, fl_get h]; simp [flen]; omega
theorem flen_take_le (fs : List Fil) (k : Nat) : flen (fs.take k) ≤ flen fs := by
  have : flen (fs.take k ++ fs.drop k) = flen fs := by rw [List.take_append_drop]
  rw [flen_append] at this; omega
theorem fl_size (fs : List Fil) (k : Nat) : (fl fs k).b.size ≤ flen fs ∧ (fl fs k).p.size ≤ flen fs := by
  by_cases h : k < fs.length
  · have h1 := flen_take_succ fs k h
    have h2 := flen_take_le fs (k + 1)
    omega
  · have : fl fs k = fil0 := by simp [fl, List.getD, List.getElem?_eq_none (Nat.le_of_not_lt h)]
    rw [this]; simp [fil0]

/-! ### the key order -/
/-- What compareFilingKeys answers. -/
def keyCmp (f g : Fil) : Int :=
  if cmpT f.b g.b ≠ 0 then cmpT f.b g.b
  else if f.l ≠ g.l then (if f.l < g.l then -1 else 1)
  else if f.p.size ≠ g.p.size then (if f.p.size < g.p.size then -1 else 1)
  else if cmpT f.p g.p ≠ 0 then cmpT f.p g.p
  else if f.s ≠ g.s then (if f.s < g.s then -1 else 1) else 0
/-- The filings are as validFilings asks. -/
structure Valid (fs : List Fil) : Prop where
  lev : ∀ j, j < fs.length → (fl fs j).l = 1 ∨ (fl fs j).l = 2
  pre : ∀ j, j < fs.length → (fl fs j).l = 1 → (fl fs j).p = ByteArray.empty
  ord : ∀ j, j + 1 < fs.length → keyCmp (fl fs j) (fl fs (j + 1)) < 0
end Go.Proofs.Qxb6600942a
