/-
  THE INDEX'S INVARIANT: what it holds behind the first m filings, and that filing one more run keeps it.
-/
import Derived.Test.Qxb6600942aIxLaw
namespace Go.Proofs.Qxb6600942a
open Go.RowKit
set_option linter.unusedVariables false

/-! ### the order -/
theorem cmpT_neg {a b : ByteArray} : cmpT a b < 0 ↔ le b a = false := by
  unfold cmpT
  by_cases h1 : le a b = true
  · rw [if_pos h1]
    by_cases h2 : le b a = true
    · simp [h2]
    · simp [h2]
  · have := le_of_not (a := a) (b := b) (by simpa using h1)
    simp [h1, this]
theorem cmpT_pos {a b : ByteArray} : 0 < cmpT a b ↔ cmpT b a < 0 := by
  rw [cmpT_neg]
  unfold cmpT
  by_cases h1 : le a b = true
  · rw [if_pos h1]
    by_cases h2 : le b a = true
    · simp [h1, h2]
    · simp [h1, h2]
  · simp [h1]
theorem cmpT_trans {a b c : ByteArray} (h : cmpT a b < 0) (h' : cmpT b c < 0) : cmpT a c < 0 := by
  rw [cmpT_neg] at *
  cases e : le c a with
  | false => rfl
  | true =>
    have := le_trans e (le_of_not h)
    rw [h'] at this; cases this
theorem rise_all {α : Type} {lt : α → α → Prop} (ht : ∀ a b c, lt a b → lt b c → lt a c) {f : Nat → α} {n : Nat} (h : ∀ i, i + 1 < n → lt (f i) (f (i + 1))) : ∀ i j, i < j → j < n → lt (f i) (f j) := by
  intro i j
  induction j with
  | zero => intro h; omega
  | succ j ih =>
    intro hij hj
    by_cases e : i = j
    · subst e; exact h i hj
    · exact ht _ _ _ (ih (by omega) (by omega)) (h j hj)
theorem key_cases {f g : Fil} (h : keyCmp f g < 0) : cmpT f.b g.b < 0 ∨ (f.b = g.b ∧ (f.l < g.l ∨ (f.l = g.l ∧ (f.p.size < g.p.size ∨ (f.p.size = g.p.size ∧ (cmpT f.p g.p < 0 ∨ (f.p = g.p ∧ f.s < g.s))))))) := by
  unfold keyCmp at h
  by_cases h0 : cmpT f.b g.b = 0
  · rw [if_neg (by simpa using h0)] at h
    refine .inr ⟨cmpT_zero.1 h0, ?_⟩
    by_cases h1 : f.l = g.l
    · rw [if_neg (by simpa using h1)] at h
      refine .inr ⟨h1, ?_⟩
      by_cases h2 : f.p.size = g.p.size
      · rw [if_neg (by simpa using h2)] at h
        refine .inr ⟨h2, ?_⟩
        by_cases h3 : cmpT f.p g.p = 0
        · rw [if_neg (by simpa using h3)] at h
          refine .inr ⟨cmpT_zero.1 h3, ?_⟩
          by_cases h4 : f.s = g.s
          · rw [if_neg (by simpa using h4)] at h; omega
          · rw [if_pos h4] at h
            by_cases h5 : f.s < g.s
            · exact h5
            · rw [if_neg h5] at h; omega
        · rw [if_pos h3] at h; exact .inl h
      · rw [if_pos h2] at h
        by_cases h5 : f.p.size < g.p.size
        · exact .inl h5
        · rw [if_neg h5] at h; omega
    · rw [if_pos h1] at h
      by_cases h5 : f.l < g.l
      · exact .inl h5
      · rw [if_neg h5] at h; omega
  · rw [if_pos h0] at h; exact .inl h

/-! ### one bucket -/
def RunOk (fs : List Fil) (m : Nat) (r : Nat × Nat) : Prop := 0 < r.2 ∧ r.1 + r.2 ≤ m ∧ ∀ i, r.1 ≤ i → i + 1 < r.1 + r.2 → (fl fs i).s < (fl fs (i + 1)).s
theorem RunOk.mono {fs : List Fil} {m m' : Nat} {r : Nat × Nat} (h : RunOk fs m r) (hm : m ≤ m') : RunOk fs m' r := ⟨h.1, by have := h.2.1; omega, h.2.2⟩
structure Bk where
  it : Option (Nat × Nat)
  no : Nat
  ps : Nat → List ByteArray
  rs : Nat → List (Nat × Nat)
def St.bk (σ : St) (i : Nat) : Bk := ⟨σ.it i, σ.no i, σ.ps i, σ.rs i⟩
def rg (rs : List (Nat × Nat)) (i : Nat) : Nat × Nat := rs.getD i (0, 0)
def tot (f : Nat → Nat) : Nat → Nat
  | 0 => 0
  | k + 1 => tot f k + f k
theorem tot_congr {f g : Nat → Nat} {k : Nat} (h : ∀ i, i < k → f i = g i) : tot f k = tot g k := by
  induction k with
  | zero => rfl
  | succ k ih => simp only [tot]; rw [ih (fun i hi => h i (by omega)), h k (by omega)]
theorem tot_le {f : Nat → Nat} {a b : Nat} (h : a ≤ b) : tot f a ≤ tot f b := by
  induction b with
  | zero => simp [Nat.le_zero.1 h]
  | succ b ih =>
    by_cases e : a = b + 1
    · subst e; exact Nat.le_refl _
    · have := ih (by omega); simp only [tot]; omega
def lsum (rs : List (Nat × Nat)) : Nat := tot (fun i => (rg rs i).2) rs.length
theorem rg_left {rs : List (Nat × Nat)} {r : Nat × Nat} {i : Nat} (h : i < rs.length) : rg (rs ++ [r]) i = rg rs i := by simp [rg, List.getD, List.getElem?_append_left h]
theorem rg_last (rs : List (Nat × Nat)) (r : Nat × Nat) : rg (rs ++ [r]) rs.length = r := by simp [rg, List.getD]
theorem lsum_snoc (rs : List (Nat × Nat)) (r : Nat × Nat) : lsum (rs ++ [r]) = lsum rs + r.2 := by
  unfold lsum
  rw [List.length_append]
  show tot (fun i => (rg (rs ++ [r]) i).2) rs.length + (rg (rs ++ [r]) rs.length).2 = _
  rw [rg_last, tot_congr (g := fun i => (rg rs i).2) (fun i hi => by rw [rg_left hi])]
theorem lsum_one (r : Nat × Nat) : lsum [r] = r.2 := by simp [lsum, tot, rg]
def itlen : Option (Nat × Nat) → Nat
  | none => 0
  | some r => r.2
def Bk.count (B : Bk) : Nat := itlen B.it + tot (fun g => lsum (B.rs g)) B.no
structure GrpOk (fs : List Fil) (m : Nat) (ps : List ByteArray) (rs : List (Nat × Nat)) : Prop where
  pos : 0 < ps.length
  len : rs.length = ps.length
  wid : ∀ i, i < ps.length → (nm ps i).size = (nm ps 0).size
  rise : ∀ i, i + 1 < ps.length → cmpT (nm ps i) (nm ps (i + 1)) < 0
  run : ∀ i, i < ps.length → RunOk fs m (rg rs i)
  small : ∀ i, i < ps.length → (nm ps i).size ≤ flen fs
  few : ps.length ≤ m
theorem GrpOk.mono {fs : List Fil} {m m' : Nat} {ps : List ByteArray} {rs : List (Nat × Nat)} (h : GrpOk fs m ps rs) (hm : m ≤ m') : GrpOk fs m' ps rs :=
  ⟨h.pos, h.len, h.wid, h.rise, fun i hi => (h.run i hi).mono hm, h.small, by have := h.few; omega⟩
structure BkOk (fs : List Fil) (m : Nat) (B : Bk) : Prop where
  it : ∀ r, B.it = some r → RunOk fs m r
  grp : ∀ g, g < B.no → GrpOk fs m (B.ps g) (B.rs g)
  rise : ∀ g, g + 1 < B.no → (nm (B.ps g) 0).size < (nm (B.ps (g + 1)) 0).size
  few : B.no ≤ m
theorem BkOk.mono {fs : List Fil} {m m' : Nat} {B : Bk} (h : BkOk fs m B) (hm : m ≤ m') : BkOk fs m' B :=
  ⟨fun r hr => (h.it r hr).mono hm, fun g hg => (h.grp g hg).mono hm, h.rise, by have := h.few; omega⟩
structure BkHas (fs : List Fil) (k : Nat) (B : Bk) : Prop where
  one : (fl fs k).l = 1 → ∃ r, B.it = some r ∧ r.1 ≤ k ∧ k < r.1 + r.2
  two : (fl fs k).l ≠ 1 → ∃ g i, g < B.no ∧ i < (B.ps g).length ∧ nm (B.ps g) i = (fl fs k).p ∧ (rg (B.rs g) i).1 ≤ k ∧ k < (rg (B.rs g) i).1 + (rg (B.rs g) i).2
structure BkLast (f : Fil) (B : Bk) : Prop where
  one : f.l = 1 → B.no = 0
  two : f.l ≠ 1 → 0 < B.no ∧ nm (B.ps (B.no - 1)) ((B.ps (B.no - 1)).length - 1) = f.p
theorem BkLast.same {f g : Fil} {B : Bk} (h : BkLast f B) (hs : same f g) : BkLast g B := by
  obtain ⟨h1, h2, h3⟩ := hs
  exact ⟨fun e => h.one (h2.trans e), fun e => by rw [← h3]; exact h.two (by rw [h2]; exact e)⟩

section steps
variable {fs : List Fil} {m m' : Nat} {B : Bk} {p : ByteArray} {r : Nat × Nat}
/-- A new group at the end. -/
def Bk.newG (B : Bk) (p : ByteArray) (r : Nat × Nat) : Bk := ⟨B.it, B.no + 1, upd B.ps B.no [p], upd B.rs B.no [r]⟩
/-- One more head in the last group. -/
def Bk.oldG (B : Bk) (p : ByteArray) (r : Nat × Nat) : Bk := ⟨B.it, B.no, upd B.ps (B.no - 1) (B.ps (B.no - 1) ++ [p]), upd B.rs (B.no - 1) (B.rs (B.no - 1) ++ [r])⟩

theorem grp_one (hr : RunOk fs m' r) (hp : p.size ≤ flen fs) : GrpOk fs m' [p] [r] := by
  refine ⟨by simp, rfl, ?_, ?_, ?_, ?_, ?_⟩
  · intro i hi
    obtain rfl : i = 0 := by simp at hi; omega
    rfl
  · intro i hi; simp at hi
  · intro i hi
    obtain rfl : i = 0 := by simp at hi; omega
    exact hr
  · intro i hi
    obtain rfl : i = 0 := by simp at hi; omega
    exact hp
  · have := hr.1; have := hr.2.1; simp; omega
theorem newG_ok (h : BkOk fs m B) (hm : m < m') (hr : RunOk fs m' r) (hp : p.size ≤ flen fs) (hw : ∀ g, g + 1 = B.no → (nm (B.ps g) 0).size < p.size) : BkOk fs m' (B.newG p r) := by
  refine ⟨fun r hr => (h.it r hr).mono (by omega), ?_, ?_, ?_⟩
  · intro g hg
    simp only [Bk.newG] at hg ⊢
    by_cases e : g = B.no
    · subst e; rw [upd_at, upd_at]; exact grp_one hr hp
    · rw [upd_ne _ _ e, upd_ne _ _ e]; exact (h.grp g (by omega)).mono (by omega)
  · intro g hg
    simp only [Bk.newG] at hg ⊢
    rw [upd_ne _ _ (by omega : g ≠ B.no)]
    by_cases e : g + 1 = B.no
    · rw [e, upd_at]; exact hw g e
    · rw [upd_ne _ _ e]; exact h.rise g (by omega)
  · have := h.few; simp only [Bk.newG]; omega
theorem newG_count : (B.newG p r).count = B.count + r.2 := by
  simp only [Bk.count, Bk.newG, tot, upd_at, lsum_one]
  rw [tot_congr (g := fun g => lsum (B.rs g)) (fun i hi => by rw [upd_ne _ _ (by omega)])]
  omega
theorem newG_has {k : Nat} (h : BkHas fs k B) : BkHas fs k (B.newG p r) := by
  refine ⟨h.one, fun e => ?_⟩
  obtain ⟨g, i, h1, h2, h3, h4⟩ := h.two e
  refine ⟨g, i, by simp only [Bk.newG]; omega, ?_⟩
  simp only [Bk.newG]
  rw [upd_ne _ _ (by omega), upd_ne _ _ (by omega)]
  exact ⟨h2, h3, h4⟩
theorem newG_new {k : Nat} (hl : (fl fs k).l ≠ 1) (hp : p = (fl fs k).p) (h1 : r.1 ≤ k) (h2 : k < r.1 + r.2) : BkHas fs k (B.newG p r) := by
  refine ⟨fun e => absurd e hl, fun e => ⟨B.no, 0, by simp only [Bk.newG]; omega, ?_⟩⟩
  simp only [Bk.newG]
  rw [upd_at, upd_at]
  exact ⟨by simp, hp, h1, h2⟩
theorem newG_last {f : Fil} (hl : f.l ≠ 1) : BkLast f (B.newG f.p r) := by
  refine ⟨fun e => absurd e hl, fun e => ⟨by simp only [Bk.newG]; omega, ?_⟩⟩
  simp only [Bk.newG, Nat.add_sub_cancel]
  rw [upd_at]; rfl
theorem oldG_ok (h : BkOk fs m B) (hm : m < m') (h0 : 0 < B.no) (hr : RunOk fs m' r) (hp : p.size = (nm (B.ps (B.no - 1)) 0).size) (hw : cmpT (nm (B.ps (B.no - 1)) ((B.ps (B.no - 1)).length - 1)) p < 0) : BkOk fs m' (B.oldG p r) := by
  obtain ⟨G1, G2, G3, G4, G5, G6, G7⟩ := h.grp (B.no - 1) (by omega)
  refine ⟨fun r hr => (h.it r hr).mono (by omega), ?_, ?_, ?_⟩
  · intro g hg
    simp only [Bk.oldG] at hg ⊢
    by_cases e : g = B.no - 1
    · subst e; rw [upd_at, upd_at]
      generalize B.ps (B.no - 1) = ps at *
      generalize B.rs (B.no - 1) = rs at *
      have e0 : nm (ps ++ [p]) 0 = nm ps 0 := nm_append_left G1
      refine ⟨by simp, by simp [G2], ?_, ?_, ?_, ?_, by simp; omega⟩
      · intro i hi
        simp only [List.length_append, List.length_cons, List.length_nil] at hi
        rw [e0]
        by_cases e : i = ps.length
        · rw [e, nm_append_last]; exact hp
        · rw [nm_append_left (by omega)]; exact G3 i (by omega)
      · intro i hi
        simp only [List.length_append, List.length_cons, List.length_nil] at hi
        rw [nm_append_left (by omega)]
        by_cases e : i + 1 = ps.length
        · rw [e, nm_append_last]
          rw [show ps.length - 1 = i from by omega] at hw; exact hw
        · rw [nm_append_left (by omega)]; exact G4 i (by omega)
      · intro i hi
        simp only [List.length_append, List.length_cons, List.length_nil] at hi
        by_cases e : i = rs.length
        · rw [e, rg_last]; exact hr
        · rw [rg_left (by omega)]; exact (G5 i (by omega)).mono (by omega)
      · intro i hi
        simp only [List.length_append, List.length_cons, List.length_nil] at hi
        by_cases e : i = ps.length
        · rw [e, nm_append_last, hp]; exact G6 0 (by omega)
        · rw [nm_append_left (by omega)]; exact G6 i (by omega)
    · rw [upd_ne _ _ e, upd_ne _ _ e]; exact (h.grp g (by omega)).mono (by omega)
  · intro g hg
    simp only [Bk.oldG] at hg ⊢
    rw [upd_ne _ _ (by omega : g ≠ B.no - 1)]
    by_cases e : g + 1 = B.no - 1
    · rw [e, upd_at, nm_append_left G1, ← e]; exact h.rise g (by omega)
    · rw [upd_ne _ _ e]; exact h.rise g (by omega)
  · have := h.few; simp only [Bk.oldG]; omega
theorem oldG_count (h0 : 0 < B.no) : (B.oldG p r).count = B.count + r.2 := by
  obtain ⟨k, hk⟩ : ∃ k, B.no = k + 1 := ⟨B.no - 1, by omega⟩
  simp only [Bk.count, Bk.oldG, hk, Nat.add_sub_cancel, tot, upd_at, lsum_snoc]
  rw [tot_congr (g := fun g => lsum (B.rs g)) (fun i hi => by rw [upd_ne _ _ (by omega)])]
  omega
theorem oldG_has {k : Nat} (hB : BkOk fs m B) (h0 : 0 < B.no) (h : BkHas fs k B) : BkHas fs k (B.oldG p r) := by
  have hlen := (hB.grp (B.no - 1) (by omega)).len
  refine ⟨h.one, fun e => ?_⟩
  obtain ⟨g, i, h1, h2, h3, h4⟩ := h.two e
  refine ⟨g, i, h1, ?_⟩
  simp only [Bk.oldG]
  by_cases e : g = B.no - 1
  · subst e
    rw [upd_at, upd_at, nm_append_left h2, rg_left (by omega)]
    exact ⟨by simp; omega, h3, h4⟩
  · rw [upd_ne _ _ e, upd_ne _ _ e]
    exact ⟨h2, h3, h4⟩
theorem oldG_new {k : Nat} (hB : BkOk fs m B) (h0 : 0 < B.no) (hl : (fl fs k).l ≠ 1) (hp : p = (fl fs k).p) (h1 : r.1 ≤ k) (h2 : k < r.1 + r.2) : BkHas fs k (B.oldG p r) := by
  have hlen := (hB.grp (B.no - 1) (by omega)).len
  refine ⟨fun e => absurd e hl, fun e => ⟨B.no - 1, (B.ps (B.no - 1)).length, by simp only [Bk.oldG]; omega, ?_⟩⟩
  simp only [Bk.oldG]
  rw [upd_at, upd_at, nm_append_last, ← hlen, rg_last]
  exact ⟨by simp; omega, hp, h1, h2⟩
theorem oldG_last {f : Fil} (h0 : 0 < B.no) (hl : f.l ≠ 1) : BkLast f (B.oldG f.p r) := by
  refine ⟨fun e => absurd e hl, fun e => ⟨h0, ?_⟩⟩
  simp only [Bk.oldG]
  rw [upd_at, List.length_append]
  exact nm_append_last _ _
end steps

/-! ### the whole -/
structure IxP (fs : List Fil) (m : Nat) (σ : St) : Prop where
  len : σ.N.length = σ.nb
  nb : σ.nb ≤ m
  rise : ∀ i, i + 1 < σ.nb → cmpT (nm σ.N i) (nm σ.N (i + 1)) < 0
  small : ∀ i, i < σ.nb → (nm σ.N i).size ≤ flen fs
  bk : ∀ i, i < σ.nb → BkOk fs m (σ.bk i)
  full : ∀ i, i < σ.nb → (σ.bk i).it = none → 0 < (σ.bk i).no
  cnt : tot (fun i => (σ.bk i).count) σ.nb = m
  has : ∀ k, k < m → ∃ i, i < σ.nb ∧ nm σ.N i = (fl fs k).b ∧ BkHas fs k (σ.bk i)
  last : 0 < m → 0 < σ.nb ∧ nm σ.N (σ.nb - 1) = (fl fs (m - 1)).b ∧ BkLast (fl fs (m - 1)) (σ.bk (σ.nb - 1))
  cut : 0 < m → m < fs.length → ¬ same (fl fs (m - 1)) (fl fs m)
theorem IxP.zero (fs : List Fil) : IxP fs 0 St.zero :=
  ⟨rfl, Nat.le_refl _, fun i h => by simp [St.zero] at h, fun i h => by simp [St.zero] at h, fun i h => by simp [St.zero] at h, fun i h => by simp [St.zero] at h, rfl, fun k h => by omega, fun h => by omega, fun h => by omega⟩
theorem IxP.fits {fs : List Fil} {m : Nat} {σ : St} (h : IxP fs m σ) : Fits m σ :=
  ⟨h.len, h.nb, fun i hi => (h.bk i hi).few, fun i j hi hj => by
    have := (h.bk i hi).grp j hj
    exact ⟨this.pos, this.few, this.len⟩⟩

section whole
variable {fs : List Fil} {m m' : Nat} {σ σ' : St}
/-- A bucket more. -/
theorem ixp_new (hP : IxP fs m σ) (hm : m < m') (hm' : m' ≤ fs.length) (hs : ∀ t, m ≤ t → t < m' → same (fl fs m) (fl fs t)) (hc : m' < fs.length → ¬ same (fl fs m) (fl fs m'))
    (hord : 0 < m → cmpT (fl fs (m - 1)).b (fl fs m).b < 0)
    (hN : σ'.N = σ.N ++ [(fl fs m).b]) (hnb : σ'.nb = σ.nb + 1) (hbk : ∀ i, i < σ.nb → σ'.bk i = σ.bk i) (hok : BkOk fs m' (σ'.bk σ.nb)) (hfu : (σ'.bk σ.nb).it = none → 0 < (σ'.bk σ.nb).no) (hcn : (σ'.bk σ.nb).count = m' - m)
    (hnew : ∀ k, m ≤ k → k < m' → BkHas fs k (σ'.bk σ.nb)) (hla : BkLast (fl fs m) (σ'.bk σ.nb)) : IxP fs m' σ' := by
  have hlen := hP.len
  have eL : nm σ'.N σ.nb = (fl fs m).b := by rw [hN, ← hlen]; exact nm_append_last _ _
  have eO : ∀ i, i < σ.nb → nm σ'.N i = nm σ.N i := fun i hi => by rw [hN]; exact nm_append_left (by omega)
  have sl := hs (m' - 1) (by omega) (by omega)
  refine ⟨by rw [hN, hnb]; simp [hlen], by have := hP.nb; omega, ?_, ?_, ?_, ?_, ?_, ?_, ?_, ?_⟩
  · intro i hi
    rw [eO i (by omega)]
    by_cases e : i + 1 = σ.nb
    · have h0 : 0 < m := by have := hP.nb; omega
      obtain ⟨l1, l2, l3⟩ := hP.last h0
      rw [e, eL, show i = σ.nb - 1 from by omega, l2]; exact hord h0
    · rw [eO _ (by omega)]; exact hP.rise i (by omega)
  · intro i hi
    by_cases e : i = σ.nb
    · rw [e, eL]; exact (fl_size fs m).1
    · rw [eO i (by omega)]; exact hP.small i (by omega)
  · intro i hi
    by_cases e : i = σ.nb
    · rw [e]; exact hok
    · rw [hbk i (by omega)]; exact (hP.bk i (by omega)).mono (by omega)
  · intro i hi
    by_cases e : i = σ.nb
    · rw [e]; exact hfu
    · rw [hbk i (by omega)]; exact hP.full i (by omega)
  · rw [hnb]
    simp only [tot]
    rw [hcn, tot_congr (g := fun i => (σ.bk i).count) (fun i hi => by rw [hbk i hi]), hP.cnt]; omega
  · intro k hk
    by_cases e : k < m
    · obtain ⟨i, h1, h2, h3⟩ := hP.has k e
      exact ⟨i, by omega, by rw [eO i h1]; exact h2, by rw [hbk i h1]; exact h3⟩
    · exact ⟨σ.nb, by omega, by rw [eL]; exact (hs k (by omega) hk).1, hnew k (by omega) hk⟩
  · intro _
    rw [hnb, Nat.add_sub_cancel]
    exact ⟨by omega, by rw [eL]; exact sl.1, hla.same sl⟩
  · intro _ h2 h3
    exact hc h2 (same_trans sl h3)
/-- The same bucket. -/
theorem ixp_old (hP : IxP fs m σ) (hm : m < m') (hm' : m' ≤ fs.length) (hs : ∀ t, m ≤ t → t < m' → same (fl fs m) (fl fs t)) (hc : m' < fs.length → ¬ same (fl fs m) (fl fs m')) {L : Nat} (hL : σ.nb = L + 1)
    (hb : nm σ.N L = (fl fs m).b)
    (hN : σ'.N = σ.N) (hnb : σ'.nb = σ.nb) (hbk : ∀ i, i < L → σ'.bk i = σ.bk i) (hok : BkOk fs m' (σ'.bk L)) (hfu : (σ'.bk L).it = none → 0 < (σ'.bk L).no) (hcn : (σ'.bk L).count = (σ.bk L).count + (m' - m))
    (hold : ∀ k, k < m → BkHas fs k (σ.bk L) → BkHas fs k (σ'.bk L)) (hnew : ∀ k, m ≤ k → k < m' → BkHas fs k (σ'.bk L)) (hla : BkLast (fl fs m) (σ'.bk L)) : IxP fs m' σ' := by
  have hlen := hP.len
  have sl := hs (m' - 1) (by omega) (by omega)
  refine ⟨by rw [hN, hnb]; exact hlen, by have := hP.nb; omega, ?_, ?_, ?_, ?_, ?_, ?_, ?_, ?_⟩
  · rw [hN, hnb]; exact hP.rise
  · rw [hN, hnb]; exact hP.small
  · intro i hi
    by_cases e : i = L
    · rw [e]; exact hok
    · rw [hbk i (by omega)]; exact (hP.bk i (by omega)).mono (by omega)
  · intro i hi
    by_cases e : i = L
    · rw [e]; exact hfu
    · rw [hbk i (by omega)]; exact hP.full i (by omega)
  · have := hP.cnt
    rw [hL] at this
    rw [hnb, hL]
    simp only [tot] at this ⊢
    rw [hcn, tot_congr (g := fun i => (σ.bk i).count) (fun i hi => by rw [hbk i hi])]; omega
  · intro k hk
    rw [hN, hnb]
    by_cases e : k < m
    · obtain ⟨i, h1, h2, h3⟩ := hP.has k e
      refine ⟨i, h1, h2, ?_⟩
      by_cases ei : i = L
      · subst ei; exact hold k e h3
      · rw [hbk i (by omega)]; exact h3
    · exact ⟨L, by omega, by rw [hb]; exact (hs k (by omega) hk).1, hnew k (by omega) hk⟩
  · intro _
    rw [hnb, hN, hL, Nat.add_sub_cancel]
    exact ⟨by omega, by rw [hb]; exact sl.1, hla.same sl⟩
  · intro _ h2 h3
    exact hc h2 (same_trans sl h3)

theorem ixp_step (hV : Valid fs) (hP : IxP fs m σ) (hm : m < m') (hm' : m' ≤ fs.length) (hs : ∀ t, m ≤ t → t < m' → same (fl fs m) (fl fs t)) (hc : m' < fs.length → ¬ same (fl fs m) (fl fs m')) (hf : σ.filed (fl fs m) (m, m' - m) σ') : IxP fs m' σ' := by
  have hrun : RunOk fs m' (m, m' - m) := by
    refine ⟨by simp; omega, by simp; omega, fun i h1 h2 => ?_⟩
    dsimp only at h1 h2
    have s1 := hs i h1 (by omega)
    have s2 := hs (i + 1) (by omega) (by omega)
    have s3 := same_trans (same_symm s1) s2
    obtain ⟨e1, e2, e3⟩ := s3
    rcases key_cases (hV.ord i (by omega)) with h | ⟨_, h | ⟨_, h | ⟨_, h | ⟨_, h⟩⟩⟩⟩
    · rw [cmpT_zero.2 e1] at h; omega
    · rw [e2] at h; omega
    · rw [e3] at h; omega
    · rw [cmpT_zero.2 e3] at h; omega
    · exact h
  -- the filing ahead
  have hprev : 0 < m → cmpT (fl fs (m - 1)).b (fl fs m).b < 0 ∨ ((fl fs (m - 1)).b = (fl fs m).b ∧ (fl fs m).l ≠ 1 ∧ ((fl fs (m - 1)).l = 1 ∨ ((fl fs (m - 1)).l ≠ 1 ∧ ((fl fs (m - 1)).p.size < (fl fs m).p.size ∨ ((fl fs (m - 1)).p.size = (fl fs m).p.size ∧ cmpT (fl fs (m - 1)).p (fl fs m).p < 0))))) := by
    intro h0
    have ho := hV.ord (m - 1) (by omega)
    have hc0 := hP.cut h0 (by omega)
    rw [show m - 1 + 1 = m from by omega] at ho
    have v1 := hV.lev (m - 1) (by omega)
    have v2 := hV.lev m (by omega)
    have p1 := hV.pre (m - 1) (by omega)
    have p2 := hV.pre m (by omega)
    generalize fl fs (m - 1) = f at *
    generalize fl fs m = g at *
    rcases key_cases ho with h | ⟨e, h | ⟨el, h⟩⟩
    · exact .inl h
    · exact .inr ⟨e, by omega, .inl (by omega)⟩
    · have hl1 : g.l ≠ 1 := by
        intro e1
        have := p2 e1
        have := p1 (by omega)
        exact hc0 ⟨e, el, by simp [*]⟩
      refine .inr ⟨e, hl1, .inr ⟨by omega, ?_⟩⟩
      rcases h with h | ⟨es, h | ⟨ep, h⟩⟩
      · exact .inl h
      · exact .inr ⟨es, h⟩
      · exact absurd ⟨e, el, ep⟩ hc0
  have hps := (fl_size fs m).2
  obtain ⟨σ1, h1, h2⟩ := hf
  rcases h1 with ⟨hb, rfl⟩ | ⟨hb, rfl⟩
  · -- a new bucket
    have hord : 0 < m → cmpT (fl fs (m - 1)).b (fl fs m).b < 0 := by
      intro h0
      obtain ⟨l1, l2, l3⟩ := hP.last h0
      rcases hb with hb | hb
      · omega
      · rcases hprev h0 with h | ⟨e, _⟩
        · exact h
        · exact absurd (l2.trans e) hb
    rcases h2 with ⟨hl, rfl⟩ | ⟨hl, σ2, h2, rfl⟩
    · refine ixp_new hP hm hm' hs hc hord rfl rfl ?_ ?_ ?_ ?_ ?_ ?_
      · intro i hi
        simp only [St.bk, St.setIt, St.addBk, St.addName, Nat.add_sub_cancel, Bk.mk.injEq]
        rw [upd_ne _ _ (by omega), upd_ne _ _ (by omega), upd_ne _ _ (by omega)]
        refine ⟨?_, ?_, ?_, ?_⟩ <;> trivial
      · refine ⟨?_, ?_, ?_, ?_⟩
        · intro r hr
          simp only [St.bk, St.setIt, St.addBk, St.addName, Nat.add_sub_cancel, upd_at] at hr
          cases hr; exact hrun
        · intro g hg; simp [St.bk, St.setIt, St.addBk, St.addName, upd_at] at hg
        · intro g hg; simp [St.bk, St.setIt, St.addBk, St.addName, upd_at] at hg
        · simp [St.bk, St.setIt, St.addBk, St.addName, upd_at]
      · intro h; simp [St.bk, St.setIt, St.addBk, St.addName, upd_at] at h
      · simp [Bk.count, St.bk, St.setIt, St.addBk, St.addName, upd_at, itlen, tot]
      · intro k hk1 hk2
        refine ⟨fun _ => ⟨_, by simp [St.bk, St.setIt, St.addBk, St.addName, upd_at]; rfl, hk1, by simp; omega⟩, fun e => absurd ((hs k hk1 hk2).2.1.symm.trans hl) e⟩
      · exact ⟨fun _ => by simp [St.bk, St.setIt, St.addBk, St.addName, upd_at], fun e => absurd hl e⟩
    · have hO : ((σ.addName (fl fs m).b).addBk).newO (fl fs m).p := .inl (by simp [St.addBk, St.addName, upd_at])
      obtain ⟨_, rfl⟩ := h2.resolve_right (fun h => h.1 hO)
      have eB : ∀ ps rs, (⟨none, 0, ps, rs⟩ : Bk).newG (fl fs m).p (m, m' - m) = ⟨none, 1, upd ps 0 [(fl fs m).p], upd rs 0 [(m, m' - m)]⟩ := fun _ _ => rfl
      have eL : ∃ ps rs, ((((σ.addName (fl fs m).b).addBk.addOb ((σ.addName (fl fs m).b).addBk.nb - 1)).addP (((σ.addName (fl fs m).b).addBk.addOb ((σ.addName (fl fs m).b).addBk.nb - 1)).nb - 1) (((σ.addName (fl fs m).b).addBk.addOb ((σ.addName (fl fs m).b).addBk.nb - 1)).no (((σ.addName (fl fs m).b).addBk.addOb ((σ.addName (fl fs m).b).addBk.nb - 1)).nb - 1) - 1) (fl fs m).p).addL (((σ.addName (fl fs m).b).addBk.addOb ((σ.addName (fl fs m).b).addBk.nb - 1)).nb - 1) (((σ.addName (fl fs m).b).addBk.addOb ((σ.addName (fl fs m).b).addBk.nb - 1)).no (((σ.addName (fl fs m).b).addBk.addOb ((σ.addName (fl fs m).b).addBk.nb - 1)).nb - 1) - 1) (m, m' - m)).bk σ.nb = (⟨none, 0, ps, rs⟩ : Bk).newG (fl fs m).p (m, m' - m) := by
        refine ⟨upd (σ.ps σ.nb) 0 [], upd (σ.rs σ.nb) 0 [], ?_⟩
        rw [eB]
        simp only [St.bk, St.addL, St.addP, St.addOb, St.addBk, St.addName, Nat.add_sub_cancel, upd_at, upd2_row, upd2_at, List.nil_append, Nat.zero_add, Nat.sub_self]
      obtain ⟨ps, rs, eL⟩ := eL
      have hB0 : BkOk fs m (⟨none, 0, ps, rs⟩ : Bk) := ⟨fun r hr => by simp at hr, fun g hg => by simp at hg, fun g hg => by simp at hg, Nat.zero_le _⟩
      refine ixp_new hP hm hm' hs hc hord rfl rfl ?_ ?_ ?_ ?_ ?_ ?_
      · intro i hi
        simp only [St.bk, St.addL, St.addP, St.addOb, St.addBk, St.addName, Nat.add_sub_cancel, upd_at, Bk.mk.injEq]
        rw [upd_ne _ _ (by omega), upd_ne _ _ (by omega), upd_ne _ _ (by omega), upd2_row_ne _ _ (by omega), upd2_row_ne _ _ (by omega), upd2_row_ne _ _ (by omega), upd2_row_ne _ _ (by omega)]
        refine ⟨?_, ?_, ?_, ?_⟩ <;> trivial
      · rw [eL]; exact newG_ok hB0 hm hrun hps (fun g hg => by simp at hg)
      · rw [eL]; intro _; simp [Bk.newG]
      · rw [eL, newG_count]; simp [Bk.count, itlen, tot]
      · intro k hk1 hk2
        rw [eL]; exact newG_new (fun e => hl ((hs k hk1 hk2).2.1.trans e)) (hs k hk1 hk2).2.2 hk1 (by simp; omega)
      · rw [eL]; exact newG_last hl
  · -- the same bucket
    have hnz : σ1.nb ≠ 0 := fun e => hb (.inl e)
    have hne : nm σ1.N (σ1.nb - 1) = (fl fs m).b := Classical.byContradiction fun e => hb (.inr e)
    obtain ⟨L, hL⟩ : ∃ L, σ1.nb = L + 1 := ⟨σ1.nb - 1, by omega⟩
    have h0 : 0 < m := by have := hP.nb; omega
    obtain ⟨l1, l2, l3⟩ := hP.last h0
    rw [hL, Nat.add_sub_cancel] at l2 l3 hne
    rcases hprev h0 with h | ⟨e, hl, hcase⟩
    · rw [← l2, hne, cmpT_zero.2 rfl] at h; omega
    rcases h2 with ⟨hl', _⟩ | ⟨_, σ2, h2, rfl⟩
    · exact absurd hl' hl
    have hBL := hP.bk L (by omega)
    rcases h2 with ⟨hO, rfl⟩ | ⟨hO, rfl⟩
    · have eL : (((σ1.addOb (σ1.nb - 1)).addP ((σ1.addOb (σ1.nb - 1)).nb - 1) ((σ1.addOb (σ1.nb - 1)).no ((σ1.addOb (σ1.nb - 1)).nb - 1) - 1) (fl fs m).p).addL ((σ1.addOb (σ1.nb - 1)).nb - 1) ((σ1.addOb (σ1.nb - 1)).no ((σ1.addOb (σ1.nb - 1)).nb - 1) - 1) (m, m' - m)).bk L = (σ1.bk L).newG (fl fs m).p (m, m' - m) := by
        simp only [St.bk, Bk.newG, St.addL, St.addP, St.addOb, hL, Nat.add_sub_cancel, upd_at, upd2_row, upd2_at, List.nil_append, Bk.mk.injEq]
        refine ⟨trivial, trivial, ?_, ?_⟩ <;> (funext j; unfold upd; by_cases e : j = σ1.no L <;> simp [e])
      have hw : ∀ g, g + 1 = (σ1.bk L).no → (nm ((σ1.bk L).ps g) 0).size < (fl fs m).p.size := by
        intro g hg
        rcases hcase with h1 | ⟨h1, h2⟩
        · have := l3.one h1; omega
        · obtain ⟨a1, a2⟩ := l3.two h1
          have hG := hBL.grp g (by omega)
          rw [show (σ1.bk L).no - 1 = g from by omega] at a2
          have hw := hG.wid ((σ1.bk L).ps g).length.pred (by have := hG.pos; simp; omega)
          rw [Nat.pred_eq_sub_one, a2] at hw
          rw [← hw]
          rcases h2 with h2 | ⟨h2, _⟩
          · exact h2
          · exfalso
            rcases hO with hO | hO
            · rw [hL, Nat.add_sub_cancel] at hO
              have : (σ1.bk L).no = σ1.no L := rfl
              omega
            · rw [hL, Nat.add_sub_cancel] at hO
              apply hO
              have : σ1.no L - 1 = g := by have : (σ1.bk L).no = σ1.no L := rfl
                                           omega
              rw [this]
              exact hw.symm.trans h2
      refine ixp_old hP hm hm' hs hc hL hne rfl rfl ?_ ?_ ?_ ?_ ?_ ?_ ?_
      · intro i hi
        simp only [St.bk, St.addL, St.addP, St.addOb, hL, Nat.add_sub_cancel, Bk.mk.injEq]
        rw [upd_ne _ _ (by omega), upd2_row_ne _ _ (by omega), upd2_row_ne _ _ (by omega), upd2_row_ne _ _ (by omega), upd2_row_ne _ _ (by omega)]
        refine ⟨?_, ?_, ?_, ?_⟩ <;> trivial
      · rw [eL]; exact newG_ok hBL hm hrun hps hw
      · rw [eL]; intro _; simp [Bk.newG]
      · rw [eL, newG_count]
      · intro k hk h; rw [eL]; exact newG_has h
      · intro k hk1 hk2
        rw [eL]; exact newG_new (fun e => hl ((hs k hk1 hk2).2.1.trans e)) (hs k hk1 hk2).2.2 hk1 (by simp; omega)
      · rw [eL]; exact newG_last hl
    · have hO1 : σ2.no L ≠ 0 := fun e => hO (.inl (by rw [hL, Nat.add_sub_cancel]; exact e))
      have hO2 : (nm (σ2.ps L (σ2.no L - 1)) 0).size = (fl fs m).p.size := Classical.byContradiction fun e => hO (.inr (by rw [hL, Nat.add_sub_cancel]; exact e))
      have hpos : 0 < (σ2.bk L).no := Nat.pos_of_ne_zero hO1
      have eL : ((σ2.addP (σ2.nb - 1) (σ2.no (σ2.nb - 1) - 1) (fl fs m).p).addL (σ2.nb - 1) (σ2.no (σ2.nb - 1) - 1) (m, m' - m)).bk L = (σ2.bk L).oldG (fl fs m).p (m, m' - m) := by
        simp only [St.bk, Bk.oldG, St.addL, St.addP, hL, Nat.add_sub_cancel, upd2_row]
      have hG := hBL.grp ((σ2.bk L).no - 1) (by omega)
      have hw : cmpT (nm ((σ2.bk L).ps ((σ2.bk L).no - 1)) (((σ2.bk L).ps ((σ2.bk L).no - 1)).length - 1)) (fl fs m).p < 0 := by
        rcases hcase with h1 | ⟨h1, h2⟩
        · have := l3.one h1; omega
        · obtain ⟨a1, a2⟩ := l3.two h1
          rw [a2]
          have hw := hG.wid (((σ2.bk L).ps ((σ2.bk L).no - 1)).length - 1) (by have := hG.pos; omega)
          rw [a2] at hw
          have e1 : (fl fs (m - 1)).p.size = (fl fs m).p.size := hw.trans hO2
          rcases h2 with h2 | ⟨_, h2⟩
          · omega
          · exact h2
      refine ixp_old hP hm hm' hs hc hL hne rfl rfl ?_ ?_ ?_ ?_ ?_ ?_ ?_
      · intro i hi
        simp only [St.bk, St.addL, St.addP, hL, Nat.add_sub_cancel, Bk.mk.injEq]
        rw [upd2_row_ne _ _ (by omega), upd2_row_ne _ _ (by omega)]
        refine ⟨?_, ?_, ?_, ?_⟩ <;> trivial
      · rw [eL]; exact oldG_ok hBL hm hpos hrun hO2.symm hw
      · rw [eL]; intro _; exact hpos
      · rw [eL, oldG_count hpos]
      · intro k hk h; rw [eL]; exact oldG_has hBL hpos h
      · intro k hk1 hk2
        rw [eL]; exact oldG_new hBL hpos (fun e => hl ((hs k hk1 hk2).2.1.trans e)) (hs k hk1 hk2).2.2 hk1 (by simp; omega)
      · rw [eL]; exact oldG_last hpos hl
end whole
end Go.Proofs.Qxb6600942a
