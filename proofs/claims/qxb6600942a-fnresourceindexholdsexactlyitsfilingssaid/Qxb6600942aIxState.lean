import Derived.Test.Qxb6600942aIxMem
namespace Go.Proofs.Qxb6600942a
open Go.RowKit
set_option linter.unusedVariables false

/-- What the index holds: bucket names; for each bucket its own list's range, its object groups: prefixes and their lists' ranges. -/
structure St where
  N : List ByteArray
  nb : Nat
  it : Nat → Option (Nat × Nat)
  no : Nat → Nat
  ps : Nat → Nat → List ByteArray
  rs : Nat → Nat → List (Nat × Nat)
/-- Where it lies. -/
structure Gh where
  vB : Value
  vY : Value
  vo : Nat → Value
  vp : Nat → Nat → Value
  vl : Nat → Nat → Value
/-- A range of the statements' row as a slice. -/
def rv (S : Nat) (r : Nat × Nat) : Value := .slice (some ⟨S, r.1, none⟩) r.2 r.2
def itv (S : Nat) (o : Option (Nat × Nat)) : Value := match o with
  | none => .slice none 0 0
  | some r => rv S r
def ints (st : Nat → Int) (n : Nat) : List Value := (List.range n).map fun j => .int .i64 (st j)
theorem ints_length (st : Nat → Int) (n : Nat) : (ints st n).length = n := by simp [ints]
theorem ints_get (st : Nat → Int) {n j : Nat} (h : j < n) : (ints st n)[j]? = some (.int .i64 (st j)) := by simp [ints, h]
theorem ints_set (st : Nat → Int) (n k : Nat) (u : Int) : (ints st n).set k (.int .i64 u) = ints (upd st k u) n := by
  apply List.ext_getElem?
  intro j
  by_cases h : j < n
  · rw [List.getElem?_set, ints_get _ h, ints_get _ h, ints_length]
    by_cases e : k = j
    · subst e; simp [h, upd]
    · rw [if_neg e, upd_ne _ _ (fun h => e h.symm)]
  · rw [List.getElem?_eq_none (by simp [ints_length]; omega), List.getElem?_eq_none (by rw [ints_length]; omega)]
def upd2 {α : Type} (f : Nat → Nat → α) (i j : Nat) (u : α) : Nat → Nat → α := upd f i (upd (f i) j u)
theorem upd2_at {α : Type} (f : Nat → Nat → α) (i j : Nat) (u : α) : upd2 f i j u i j = u := by simp [upd2, upd]
theorem upd2_ne {α : Type} (f : Nat → Nat → α) {i j a b : Nat} (u : α) (h : a ≠ i ∨ b ≠ j) : upd2 f i j u a b = f a b := by
  unfold upd2 upd
  by_cases e : a = i
  · rw [if_pos e]
    have : b ≠ j := by omega
    rw [if_neg this, e]
  · rw [if_neg e]
theorem upd2_row {α : Type} (f : Nat → Nat → α) (i j : Nat) (u : α) : upd2 f i j u i = upd (f i) j u := by simp [upd2, upd]
theorem upd2_row_ne {α : Type} (f : Nat → Nat → α) {i j a : Nat} (u : α) (h : a ≠ i) : upd2 f i j u a = f a := by simp [upd2, upd, h]

/-- THE INDEX IN MEMORY. -/
structure IxM (w : World) (B X S n : Nat) (own : Nat → Tag) (st : Nat → Int) (σ : St) (g : Gh) : Prop where
  hx : RowAt w B own (0, 0, 0) 39 3 (.slice (some ⟨X, 0, none⟩) 1 1) 1 [.slice none 0 0, g.vB, g.vY]
  hs : RowAt w B own (1, 0, 0) 3 1 (.slice (some ⟨S, 0, none⟩) n n) n (ints st n)
  hb : RowAt w B own (2, 0, 0) 9 1 g.vB σ.N.length (texts σ.N)
  hy : RowAt w B own (3, 0, 0) 70 2 g.vY σ.nb (cells2 σ.nb (fun i => itv S (σ.it i)) g.vo)
  ho : ∀ i, i < σ.nb → RowAt w B own (4, i, 0) 73 2 (g.vo i) (σ.no i) (cells2 (σ.no i) (g.vp i) (g.vl i))
  hp : ∀ i j, i < σ.nb → j < σ.no i → RowAt w B own (5, i, j) 9 1 (g.vp i j) (σ.ps i j).length (texts (σ.ps i j))
  hl : ∀ i j, i < σ.nb → j < σ.no i → RowAt w B own (6, i, j) 35 1 (g.vl i j) (σ.rs i j).length ((σ.rs i j).map (rv S))

variable {w w1 w2 : World} {B X S n : Nat} {own : Nat → Tag} {st : Nat → Int} {σ : St} {g : Gh}

/-- A mapping from one set of rows to another that keeps all fields. -/
theorem IxM.map {w' : World} {own' : Nat → Tag} (h : IxM w B X S n own st σ g) (k : ∀ (t : Tag) (e size n : Nat) (v : Value) (xs : List Value), RowAt w B own t e size v n xs → RowAt w' B own' t e size v n xs) : IxM w' B X S n own' st σ g :=
  ⟨k _ _ _ _ _ _ h.hx, k _ _ _ _ _ _ h.hs, k _ _ _ _ _ _ h.hb, k _ _ _ _ _ _ h.hy, fun i hi => k _ _ _ _ _ _ (h.ho i hi), fun i j hi hj => k _ _ _ _ _ _ (h.hp i j hi hj), fun i j hi hj => k _ _ _ _ _ _ (h.hl i j hi hj)⟩
theorem IxM.grown {w' : World} (h : IxM w B X S n own st σ g) (hg : w.grownBy w' none) : IxM w' B X S n own st σ g :=
  h.map fun t e size n v xs hr => hr.kept hg (fun _ h => by cases h) (fun _ _ => rfl)
theorem IxM.alloc (h : IxM w B X S n own st σ g) (o : Obj) : IxM (w.alloc o) B X S n own st σ g := h.grown (World.grownBy_alloc w o none)
theorem IxM.drewN (h : IxM w B X S n own st σ g) (m : Nat) : IxM (w.drewN m) B X S n own st σ g := h.map fun _ _ _ _ _ _ hr => hr
theorem IxM.drew (h : IxM w B X S n own st σ g) : IxM w.drew B X S n own st σ g := h.map fun _ _ _ _ _ _ hr => hr

theorem IxM.setSt (h : IxM w B X S n own st σ g) (k : Nat) (u : Int) : IxM (w.setCell ⟨S, k, none⟩ (.int .i64 u)) B X S n own (upd st k u) σ g := by
  obtain ⟨s1, s2⟩ := store_only k (.int .i64 u) h.hs
  rw [ints_set] at s1
  exact ⟨s2 _ _ _ _ _ _ (by simp) h.hx, s1, s2 _ _ _ _ _ _ (by simp) h.hb, s2 _ _ _ _ _ _ (by simp) h.hy, fun i hi => s2 _ _ _ _ _ _ (by simp) (h.ho i hi), fun i j hi hj => s2 _ _ _ _ _ _ (by simp) (h.hp i j hi hj), fun i j hi hj => s2 _ _ _ _ _ _ (by simp) (h.hl i j hi hj)⟩

theorem IxM.addName (h : IxM w B X S n own st σ g) {v' : Value} {b : ByteArray} (hg1 : w.grownBy w1 none) (hown : w2.ownsRow B 9 1 v' (σ.N.length + 1) (texts σ.N ++ [.string b])) (hg2 : w1.grownBy w2 g.vB.ownBlock) (hloc : v'.ownBlock = g.vB.ownBlock ∨ v'.ownBlock = some w1.heap.size) :
    IxM (w2.setCell ⟨X, 1, none⟩ v') B X S n (marks own w.heap.size (2, 0, 0)) st { σ with N := σ.N ++ [b] } { g with vB := v' } := by
  obtain ⟨a1, a2, a3⟩ := app_store 1 h.hb h.hx (by simp) hg1 hown hg2 hloc
  refine ⟨a2, a3 _ _ _ _ _ _ (by simp) (by simp) h.hs, ?_, a3 _ _ _ _ _ _ (by simp) (by simp) h.hy, fun i hi => a3 _ _ _ _ _ _ (by simp) (by simp) (h.ho i hi), fun i j hi hj => a3 _ _ _ _ _ _ (by simp) (by simp) (h.hp i j hi hj), fun i j hi hj => a3 _ _ _ _ _ _ (by simp) (by simp) (h.hl i j hi hj)⟩
  have e : texts (σ.N ++ [b]) = texts σ.N ++ [.string b] := by simp [texts]
  show RowAt _ _ _ _ _ _ _ (σ.N ++ [b]).length (texts (σ.N ++ [b]))
  rw [e, List.length_append]; exact a1

theorem IxM.addBk (h : IxM w B X S n own st σ g) {v' : Value} (hg1 : w.grownBy w1 none) (hown : w2.ownsRow B 70 2 v' (σ.nb + 1) (cells2 σ.nb (fun i => itv S (σ.it i)) g.vo ++ [.slice none 0 0, .slice none 0 0])) (hg2 : w1.grownBy w2 g.vY.ownBlock) (hloc : v'.ownBlock = g.vY.ownBlock ∨ v'.ownBlock = some w1.heap.size) :
    IxM (w2.setCell ⟨X, 2, none⟩ v') B X S n (marks own w.heap.size (3, 0, 0)) st { σ with nb := σ.nb + 1, it := upd σ.it σ.nb none, no := upd σ.no σ.nb 0 } { g with vY := v', vo := upd g.vo σ.nb (.slice none 0 0) } := by
  obtain ⟨a1, a2, a3⟩ := app_store 2 h.hy h.hx (by simp) hg1 hown hg2 hloc
  refine ⟨a2, a3 _ _ _ _ _ _ (by simp) (by simp) h.hs, a3 _ _ _ _ _ _ (by simp) (by simp) h.hb, ?_, ?_, ?_, ?_⟩
  · rw [cells2_snoc] at a1
    show RowAt _ _ _ _ _ _ _ (σ.nb + 1) (cells2 (σ.nb + 1) (fun i => itv S (upd σ.it σ.nb none i)) (upd g.vo σ.nb (.slice none 0 0)))
    rw [cells2_congr (f' := upd (fun i => itv S (σ.it i)) σ.nb (.slice none 0 0)) (h' := upd g.vo σ.nb (.slice none 0 0)) ?_ (fun _ _ => rfl)]
    · exact a1
    · intro j _
      by_cases e : j = σ.nb
      · subst e; rw [upd_at, upd_at]; rfl
      · rw [upd_ne _ _ e, upd_ne _ _ e]
  · intro i hi
    by_cases e : i = σ.nb
    · subst e
      show RowAt _ _ _ _ _ _ (upd g.vo σ.nb (.slice none 0 0) σ.nb) (upd σ.no σ.nb 0 σ.nb) (cells2 (upd σ.no σ.nb 0 σ.nb) _ _)
      rw [upd_at, upd_at]; exact RowAt.nil _ _ _ _ _ _
    · show RowAt _ _ _ _ _ _ (upd g.vo σ.nb (.slice none 0 0) i) (upd σ.no σ.nb 0 i) (cells2 (upd σ.no σ.nb 0 i) _ _)
      rw [upd_ne _ _ e, upd_ne _ _ e]
      exact a3 _ _ _ _ _ _ (by simp) (by simp) (h.ho i (by simp at hi; omega))
  · intro i j hi hj
    simp only at hi hj
    by_cases e : i = σ.nb
    · subst e; rw [upd_at] at hj; omega
    · rw [upd_ne _ _ e] at hj
      exact a3 _ _ _ _ _ _ (by simp) (by simp) (h.hp i j (by omega) hj)
  · intro i j hi hj
    simp only at hi hj
    by_cases e : i = σ.nb
    · subst e; rw [upd_at] at hj; omega
    · rw [upd_ne _ _ e] at hj
      exact a3 _ _ _ _ _ _ (by simp) (by simp) (h.hl i j (by omega) hj)

theorem IxM.setIt (h : IxM w B X S n own st σ g) {gy cy i : Nat} (hy : g.vY = .slice (some ⟨gy, 0, none⟩) σ.nb cy) (r : Nat × Nat) :
    IxM (w.setCell ⟨gy, i * 2, none⟩ (rv S r)) B X S n own st { σ with it := upd σ.it i (some r) } g := by
  have h2 := h.hy
  rw [hy] at h2
  obtain ⟨s1, s2⟩ := store_only (i * 2) (rv S r) h2
  refine ⟨s2 _ _ _ _ _ _ (by simp) h.hx, s2 _ _ _ _ _ _ (by simp) h.hs, s2 _ _ _ _ _ _ (by simp) h.hb, ?_, fun i hi => s2 _ _ _ _ _ _ (by simp) (h.ho i hi), fun i j hi hj => s2 _ _ _ _ _ _ (by simp) (h.hp i j hi hj), fun i j hi hj => s2 _ _ _ _ _ _ (by simp) (h.hl i j hi hj)⟩
  rw [cells2_setE] at s1
  rw [hy]
  show RowAt _ _ _ _ _ _ _ σ.nb (cells2 σ.nb (fun j => itv S (upd σ.it i (some r) j)) g.vo)
  rw [cells2_congr (f' := upd (fun i => itv S (σ.it i)) i (rv S r)) (h' := g.vo) ?_ (fun _ _ => rfl)]
  · exact s1
  · intro j _
    by_cases e : j = i
    · subst e; rw [upd_at, upd_at]; rfl
    · rw [upd_ne _ _ e, upd_ne _ _ e]

theorem IxM.addOb (h : IxM w B X S n own st σ g) {v' : Value} {gy cy i : Nat} (hi : i < σ.nb) (hy : g.vY = .slice (some ⟨gy, 0, none⟩) σ.nb cy) (hg1 : w.grownBy w1 none) (hown : w2.ownsRow B 73 2 v' (σ.no i + 1) (cells2 (σ.no i) (g.vp i) (g.vl i) ++ [.slice none 0 0, .slice none 0 0])) (hg2 : w1.grownBy w2 (g.vo i).ownBlock) (hloc : v'.ownBlock = (g.vo i).ownBlock ∨ v'.ownBlock = some w1.heap.size) :
    IxM (w2.setCell ⟨gy, i * 2 + 1, none⟩ v') B X S n (marks own w.heap.size (4, i, 0)) st { σ with no := upd σ.no i (σ.no i + 1), ps := upd2 σ.ps i (σ.no i) [], rs := upd2 σ.rs i (σ.no i) [] }
      { g with vo := upd g.vo i v', vp := upd2 g.vp i (σ.no i) (.slice none 0 0), vl := upd2 g.vl i (σ.no i) (.slice none 0 0) } := by
  have h2 := h.hy
  rw [hy] at h2
  obtain ⟨a1, a2, a3⟩ := app_store (i * 2 + 1) (h.ho i hi) h2 (by simp) hg1 hown hg2 hloc
  refine ⟨a3 _ _ _ _ _ _ (by simp) (by simp) h.hx, a3 _ _ _ _ _ _ (by simp) (by simp) h.hs, a3 _ _ _ _ _ _ (by simp) (by simp) h.hb, ?_, ?_, ?_, ?_⟩
  · rw [cells2_setO] at a2
    show RowAt _ _ _ _ _ _ g.vY _ _
    rw [hy]; exact a2
  · intro k hk
    by_cases e : k = i
    · subst e
      show RowAt _ _ _ _ _ _ (upd g.vo k v' k) (upd σ.no k (σ.no k + 1) k) (cells2 (upd σ.no k (σ.no k + 1) k) (upd2 g.vp k (σ.no k) (.slice none 0 0) k) (upd2 g.vl k (σ.no k) (.slice none 0 0) k))
      rw [upd_at, upd_at, upd2_row, upd2_row, ← cells2_snoc]; exact a1
    · show RowAt _ _ _ _ _ _ (upd g.vo i v' k) (upd σ.no i (σ.no i + 1) k) (cells2 (upd σ.no i (σ.no i + 1) k) (upd2 g.vp i (σ.no i) (.slice none 0 0) k) (upd2 g.vl i (σ.no i) (.slice none 0 0) k))
      rw [upd_ne _ _ e, upd_ne _ _ e, upd2_row_ne _ _ e, upd2_row_ne _ _ e]
      exact a3 _ _ _ _ _ _ (by simp; exact e) (by simp) (h.ho k hk)
  · intro a j ha hj
    simp only at ha hj
    by_cases e : a = i
    · subst e
      rw [upd_at] at hj
      by_cases ej : j = σ.no a
      · subst ej
        show RowAt _ _ _ _ _ _ (upd2 g.vp a (σ.no a) (.slice none 0 0) a (σ.no a)) (upd2 σ.ps a (σ.no a) [] a (σ.no a)).length (texts (upd2 σ.ps a (σ.no a) [] a (σ.no a)))
        rw [upd2_at, upd2_at]; exact RowAt.nil _ _ _ _ _ _
      · show RowAt _ _ _ _ _ _ (upd2 g.vp a (σ.no a) (.slice none 0 0) a j) (upd2 σ.ps a (σ.no a) [] a j).length (texts (upd2 σ.ps a (σ.no a) [] a j))
        rw [upd2_ne _ _ (.inr ej), upd2_ne _ _ (.inr ej)]
        exact a3 _ _ _ _ _ _ (by simp) (by simp) (h.hp a j ha (by omega))
    · rw [upd_ne _ _ e] at hj
      show RowAt _ _ _ _ _ _ (upd2 g.vp i (σ.no i) (.slice none 0 0) a j) (upd2 σ.ps i (σ.no i) [] a j).length (texts (upd2 σ.ps i (σ.no i) [] a j))
      rw [upd2_ne _ _ (.inl e), upd2_ne _ _ (.inl e)]
      exact a3 _ _ _ _ _ _ (by simp) (by simp) (h.hp a j ha hj)
  · intro a j ha hj
    simp only at ha hj
    by_cases e : a = i
    · subst e
      rw [upd_at] at hj
      by_cases ej : j = σ.no a
      · subst ej
        show RowAt _ _ _ _ _ _ (upd2 g.vl a (σ.no a) (.slice none 0 0) a (σ.no a)) (upd2 σ.rs a (σ.no a) [] a (σ.no a)).length ((upd2 σ.rs a (σ.no a) [] a (σ.no a)).map (rv S))
        rw [upd2_at, upd2_at]; exact RowAt.nil _ _ _ _ _ _
      · show RowAt _ _ _ _ _ _ (upd2 g.vl a (σ.no a) (.slice none 0 0) a j) (upd2 σ.rs a (σ.no a) [] a j).length ((upd2 σ.rs a (σ.no a) [] a j).map (rv S))
        rw [upd2_ne _ _ (.inr ej), upd2_ne _ _ (.inr ej)]
        exact a3 _ _ _ _ _ _ (by simp) (by simp) (h.hl a j ha (by omega))
    · rw [upd_ne _ _ e] at hj
      show RowAt _ _ _ _ _ _ (upd2 g.vl i (σ.no i) (.slice none 0 0) a j) (upd2 σ.rs i (σ.no i) [] a j).length ((upd2 σ.rs i (σ.no i) [] a j).map (rv S))
      rw [upd2_ne _ _ (.inl e), upd2_ne _ _ (.inl e)]
      exact a3 _ _ _ _ _ _ (by simp) (by simp) (h.hl a j ha hj)

theorem IxM.addP (h : IxM w B X S n own st σ g) {v' : Value} {go co i j : Nat} {p : ByteArray} (hi : i < σ.nb) (hj : j < σ.no i) (ho : g.vo i = .slice (some ⟨go, 0, none⟩) (σ.no i) co) (hg1 : w.grownBy w1 none) (hown : w2.ownsRow B 9 1 v' ((σ.ps i j).length + 1) (texts (σ.ps i j) ++ [.string p])) (hg2 : w1.grownBy w2 (g.vp i j).ownBlock) (hloc : v'.ownBlock = (g.vp i j).ownBlock ∨ v'.ownBlock = some w1.heap.size) :
    IxM (w2.setCell ⟨go, j * 2, none⟩ v') B X S n (marks own w.heap.size (5, i, j)) st { σ with ps := upd2 σ.ps i j (σ.ps i j ++ [p]) } { g with vp := upd2 g.vp i j v' } := by
  have h2 := h.ho i hi
  rw [ho] at h2
  obtain ⟨a1, a2, a3⟩ := app_store (j * 2) (h.hp i j hi hj) h2 (by simp) hg1 hown hg2 hloc
  refine ⟨a3 _ _ _ _ _ _ (by simp) (by simp) h.hx, a3 _ _ _ _ _ _ (by simp) (by simp) h.hs, a3 _ _ _ _ _ _ (by simp) (by simp) h.hb, a3 _ _ _ _ _ _ (by simp) (by simp) h.hy, ?_, ?_, ?_⟩
  · intro k hk
    by_cases e : k = i
    · subst e
      rw [cells2_setE] at a2
      show RowAt _ _ _ _ _ _ (g.vo k) (σ.no k) (cells2 (σ.no k) (upd2 g.vp k j v' k) (g.vl k))
      rw [upd2_row, ho]; exact a2
    · show RowAt _ _ _ _ _ _ (g.vo k) (σ.no k) (cells2 (σ.no k) (upd2 g.vp i j v' k) (g.vl k))
      rw [upd2_row_ne _ _ e]
      exact a3 _ _ _ _ _ _ (by simp) (by simp; exact e) (h.ho k hk)
  · intro a b ha hb
    by_cases e : a = i ∧ b = j
    · obtain ⟨rfl, rfl⟩ := e
      show RowAt _ _ _ _ _ _ (upd2 g.vp a b v' a b) (upd2 σ.ps a b (σ.ps a b ++ [p]) a b).length (texts (upd2 σ.ps a b (σ.ps a b ++ [p]) a b))
      rw [upd2_at, upd2_at, List.length_append]
      have et : texts (σ.ps a b ++ [p]) = texts (σ.ps a b) ++ [.string p] := by simp [texts]
      rw [et]; exact a1
    · have e' : a ≠ i ∨ b ≠ j := by omega
      show RowAt _ _ _ _ _ _ (upd2 g.vp i j v' a b) (upd2 σ.ps i j (σ.ps i j ++ [p]) a b).length (texts (upd2 σ.ps i j (σ.ps i j ++ [p]) a b))
      rw [upd2_ne _ _ e', upd2_ne _ _ e']
      exact a3 _ _ _ _ _ _ (by simp; omega) (by simp) (h.hp a b ha hb)
  · intro a b ha hb
    exact a3 _ _ _ _ _ _ (by simp) (by simp) (h.hl a b ha hb)

theorem IxM.addL (h : IxM w B X S n own st σ g) {v' : Value} {go co i j : Nat} {r : Nat × Nat} (hi : i < σ.nb) (hj : j < σ.no i) (ho : g.vo i = .slice (some ⟨go, 0, none⟩) (σ.no i) co) (hg1 : w.grownBy w1 none) (hown : w2.ownsRow B 35 1 v' ((σ.rs i j).length + 1) ((σ.rs i j).map (rv S) ++ [rv S r])) (hg2 : w1.grownBy w2 (g.vl i j).ownBlock) (hloc : v'.ownBlock = (g.vl i j).ownBlock ∨ v'.ownBlock = some w1.heap.size) :
    IxM (w2.setCell ⟨go, j * 2 + 1, none⟩ v') B X S n (marks own w.heap.size (6, i, j)) st { σ with rs := upd2 σ.rs i j (σ.rs i j ++ [r]) } { g with vl := upd2 g.vl i j v' } := by
  have h2 := h.ho i hi
  rw [ho] at h2
  obtain ⟨a1, a2, a3⟩ := app_store (j * 2 + 1) (h.hl i j hi hj) h2 (by simp) hg1 hown hg2 hloc
  refine ⟨a3 _ _ _ _ _ _ (by simp) (by simp) h.hx, a3 _ _ _ _ _ _ (by simp) (by simp) h.hs, a3 _ _ _ _ _ _ (by simp) (by simp) h.hb, a3 _ _ _ _ _ _ (by simp) (by simp) h.hy, ?_, ?_, ?_⟩
  · intro k hk
    by_cases e : k = i
    · subst e
      rw [cells2_setO] at a2
      show RowAt _ _ _ _ _ _ (g.vo k) (σ.no k) (cells2 (σ.no k) (g.vp k) (upd2 g.vl k j v' k))
      rw [upd2_row, ho]; exact a2
    · show RowAt _ _ _ _ _ _ (g.vo k) (σ.no k) (cells2 (σ.no k) (g.vp k) (upd2 g.vl i j v' k))
      rw [upd2_row_ne _ _ e]
      exact a3 _ _ _ _ _ _ (by simp) (by simp; exact e) (h.ho k hk)
  · intro a b ha hb
    exact a3 _ _ _ _ _ _ (by simp) (by simp) (h.hp a b ha hb)
  · intro a b ha hb
    by_cases e : a = i ∧ b = j
    · obtain ⟨rfl, rfl⟩ := e
      show RowAt _ _ _ _ _ _ (upd2 g.vl a b v' a b) (upd2 σ.rs a b (σ.rs a b ++ [r]) a b).length ((upd2 σ.rs a b (σ.rs a b ++ [r]) a b).map (rv S))
      rw [upd2_at, upd2_at, List.length_append, List.map_append]
      exact a1
    · have e' : a ≠ i ∨ b ≠ j := by omega
      show RowAt _ _ _ _ _ _ (upd2 g.vl i j v' a b) (upd2 σ.rs i j (σ.rs i j ++ [r]) a b).length ((upd2 σ.rs i j (σ.rs i j ++ [r]) a b).map (rv S))
      rw [upd2_ne _ _ e', upd2_ne _ _ e']
      exact a3 _ _ _ _ _ _ (by simp; omega) (by simp) (h.hl a b ha hb)
end Go.Proofs.Qxb6600942a
