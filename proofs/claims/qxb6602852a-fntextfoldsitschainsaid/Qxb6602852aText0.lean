/-
  A CHAIN OF NODES IN MEMORY; WHAT ITS TEXT IS; THE BUFFER IN A BOX.
-/
import Derived.Test.Qxb6602852aBack
import Derived.Test.Qxb6602852aChain
import Derived.Deep.RegionLaw
import Derived.Deep.RegionHeld3
namespace Go.Proofs.Qxb6602852a
open Go.RowKit
set_option linter.unusedVariables false

structure Nodes (w : World) (k : Nat) (blk : Nat → Nat) (pth : Nat → ByteArray) (s au : ByteArray) (h : Bool) : Prop where
  lt : ∀ j, blk j < w.heap.size
  path : ∀ j, w.cell? ⟨blk j, 3, none⟩ = some (.string (pth j))
  und : ∀ j, j < k → w.cell? ⟨blk j, 4, none⟩ = some (.pointer (some ⟨blk (j + 1), 0, none⟩))
  top : w.cell? ⟨blk k, 4, none⟩ = some (.pointer none)
  c0 : w.cell? ⟨blk 0, 0, none⟩ = some (.string s)
  c1 : w.cell? ⟨blk 0, 1, none⟩ = some (.string au)
  c2 : w.cell? ⟨blk 0, 2, none⟩ = some (.bool h)
theorem Nodes.later {w w' : World} {k B : Nat} {blk : Nat → Nat} {pth : Nat → ByteArray} {s au : ByteArray} {h : Bool} (n : Nodes w k blk pth s au h) (hb : Below B w w') (hB : w.heap.size ≤ B) : Nodes w' k blk pth s au h := by
  have e : ∀ j o, w'.cell? ⟨blk j, o, none⟩ = w.cell? ⟨blk j, o, none⟩ := fun j o => hb.cell (p := ⟨blk j, o, none⟩) (Nat.lt_of_lt_of_le (n.lt j) hB)
  exact ⟨fun j => Nat.lt_of_lt_of_le (n.lt j) hb.size, fun j => (e j 3).trans (n.path j), fun j hj => (e j 4).trans (n.und j hj), (e k 4).trans n.top, (e 0 0).trans n.c0, (e 0 1).trans n.c1, (e 0 2).trans n.c2⟩

/-- How long the paths are, a slash each. -/
def psum (pth : Nat → ByteArray) : Nat → Nat
  | 0 => 0
  | j + 1 => psum pth j + (1 + (pth j).size)
theorem psum_le (pth : Nat → ByteArray) {a b : Nat} (h : a ≤ b) : psum pth a ≤ psum pth b := by
  induction b with
  | zero => rw [Nat.le_zero.1 h]; exact Nat.le_refl _
  | succ b ih =>
    by_cases e : a = b + 1
    · rw [e]; exact Nat.le_refl _
    · have := ih (by omega); simp only [psum]; omega
def preT (s au : ByteArray) (h : Bool) : List UInt8 := if s.data.toList = [] then [] else s.data.toList ++ [58] ++ (if h then [47, 47] ++ au.data.toList else [])
def accT (pth : Nat → ByteArray) (base : List UInt8) (js : List Nat) : List UInt8 := js.foldl (fun acc j => strip acc ++ [47] ++ (pth j).data.toList) base
theorem accT_snoc (pth : Nat → ByteArray) (base : List UInt8) (js : List Nat) (j : Nat) : accT pth base (js ++ [j]) = strip (accT pth base js) ++ [47] ++ (pth j).data.toList := by simp [accT]
theorem accT_chain (pth : Nat → ByteArray) (k : Nat) : ∀ j, j ≤ k → accT pth (pth k).data.toList (dn k j) = chain ((List.range' (k - j) (j + 1)).map pth) := by
  intro j
  induction j with
  | zero => intro _; simp [accT, dn, upto, chain]
  | succ j ih =>
    intro hj
    have e : dn k (j + 1) = dn k j ++ [k - 1 - j] := upto_succ _ _
    rw [e, accT_snoc, ih (by omega)]
    obtain ⟨m, hm⟩ : ∃ m, k - (j + 1) = m := ⟨_, rfl⟩
    have e2 : k - j = m + 1 := by omega
    have e3 : k - 1 - j = m := by omega
    rw [hm, e2, e3]
    simp only [List.range'_succ, List.map_cons, chain]
theorem accT_all (pth : Nat → ByteArray) (k : Nat) : accT pth (pth k).data.toList (dn k k) = chain ((List.range (k + 1)).map pth) := by
  rw [accT_chain pth k k (Nat.le_refl _), Nat.sub_self, ← List.range_eq_range']
theorem accT_length (pth : Nat → ByteArray) (base : List UInt8) (js : List Nat) (M : Nat) (h : ∀ j, (pth j).size ≤ M) : (accT pth base js).length ≤ base.length + js.length * (M + 1) := by
  unfold accT
  induction js generalizing base with
  | nil => simp
  | cons j r ih =>
    have h1 := ih (strip base ++ [47] ++ (pth j).data.toList)
    have h2 := strip_length base
    have h3 := h j
    simp only [List.foldl_cons, List.length_cons, List.length_append, List.length_nil, str_len, Nat.add_mul] at h1 ⊢
    omega

/-- The buffer v with bytes l; the box Bb holds vb; below B nothing has turned since w. -/
structure TX (w W : World) (B Bb : Nat) (vb v : Value) (l : List UInt8) : Prop where
  bel : Below B w W
  box : W.heap[Bb]? = some (.cells #[vb] 27)
  buf : Buf W B v l
  hB : B ≤ Bb
section
variable {w W W1 W2 : World} {B Bb : Nat} {vb v v2 : Value} {l l2 : List UInt8}
theorem TX.lt (h : TX w W B Bb vb v l) : Bb < W.heap.size := (Array.getElem?_eq_some_iff.1 h.box).1
theorem TX.cell (h : TX w W B Bb vb v l) : W.cell? ⟨Bb, 0, none⟩ = some vb := by simp [World.cell?, h.box]
theorem TX.frozen (h : TX w W B Bb vb v l) : W.frozen? ⟨Bb, 0, none⟩ = false := by simp [World.frozen?, h.box]
theorem TX.le (h : TX w W B Bb vb v l) : B ≤ W.heap.size := Nat.le_of_lt (Nat.lt_of_le_of_lt h.hB h.lt)
theorem buf_apart (h : Buf W B v l) {b' : Nat} {cs : Array Value} {t : TypeId} {fr : Nat × Nat} (hb : W.heap[b']? = some (.cells cs t fr)) (ht : t ≠ 5) : v.ownBlock ≠ some b' := by
  rcases h.2 with ⟨rfl, _⟩ | ⟨g, cap, cur, rfl, _, hh, _⟩
  · simp [Value.ownBlock]
  · simp only [Value.ownBlock, ne_eq, Option.some.injEq]
    rintro rfl
    rw [hb] at hh
    cases hh
    exact ht rfl
theorem TX.alloc (h : TX w W B Bb vb v l) (o : Obj) : TX w (W.alloc o) B Bb vb v l :=
  ⟨h.bel.alloc h.le _, (Below.heap_alloc _ _ _ h.lt).trans h.box, h.buf.alloc _, h.hB⟩
theorem TX.drew (h : TX w W B Bb vb v l) : TX w W.drew B Bb vb v l := ⟨h.bel.drew, h.box, h.buf, h.hB⟩
/-- Behind an append. -/
theorem TX.app (h : TX w W B Bb vb v l) (hown : Buf W2 B v2 l2) (hg : W.grownBy W2 v.ownBlock) : TX w W2 B Bb vb v2 l2 :=
  ⟨h.bel.grown hg h.le (fun k hk => h.buf.ge k hk), (hg.block Bb h.lt (fun e => buf_apart h.buf h.box (by decide) e.symm)).trans h.box, hown, h.hB⟩
/-- A block of another kind lies as it lay. -/
theorem TX.other (h : TX w W B Bb vb v l) (hg : W.grownBy W2 v.ownBlock) {b' : Nat} {cs : Array Value} {t : TypeId} {fr : Nat × Nat} (hb : W.heap[b']? = some (.cells cs t fr)) (ht : t ≠ 5) : W2.heap[b']? = some (.cells cs t fr) :=
  (hg.block b' (Array.getElem?_eq_some_iff.1 hb).1 (fun e => buf_apart h.buf hb ht e.symm)).trans hb
theorem heap_set_same (W : World) (b : Nat) {cs : Array Value} {t : TypeId} (u : Value) (h : W.heap[b]? = some (.cells cs t)) : (W.setCell ⟨b, 0, none⟩ u).heap[b]? = some (.cells (cs.setIfInBounds 0 u) t) := by
  have hl := (Array.getElem?_eq_some_iff.1 h).1
  have he := (Array.getElem?_eq_some_iff.1 h).2
  simp [World.setCell, Array.getElem?_modify, h]
theorem TX.store (h : TX w W B Bb vb v l) : TX w (W.setCell ⟨Bb, 0, none⟩ v) B Bb v v l := by
  refine ⟨h.bel.setCell h.hB _, ?_, ?_, h.hB⟩
  · rw [heap_set_same _ _ _ h.box]; rfl
  · refine ⟨h.buf.1, ?_⟩
    have hne := buf_apart h.buf h.box (by decide)
    rcases h.buf.2 with h0 | ⟨g, cap, cur, rfl, h2, hh, h3⟩
    · exact .inl h0
    · simp only [Value.ownBlock, ne_eq, Option.some.injEq] at hne
      exact .inr ⟨g, cap, cur, rfl, h2, (Below.heap_setCell _ _ _ _ (by simpa using hne)).trans hh, h3⟩
end
end Go.Proofs.Qxb6602852a
