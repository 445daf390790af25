/-
  PLAIN MATHEMATICS: the byte order of names; a merge, step by step. Nothing of the program.
-/
import Derived.WalkKit
namespace Go.Proofs.Qxb6600942a

/-- The byte order of two texts. -/
def leL : List UInt8 → List UInt8 → Bool
  | [], _ => true
  | _ :: _, [] => false
  | x :: xs, y :: ys => if x < y then true else if y < x then false else leL xs ys
theorem leL_total : ∀ a b : List UInt8, leL a b = true ∨ leL b a = true
  | [], _ => .inl (by simp [leL])
  | _ :: _, [] => .inr (by simp [leL])
  | x :: xs, y :: ys => by
    simp only [leL]
    by_cases h : x < y
    · simp [h]
    · by_cases h2 : y < x
      · simp [h2]
      · simp only [h, h2, if_false]; exact leL_total xs ys
theorem u8_eq {x y : UInt8} (h : ¬ x < y) (h2 : ¬ y < x) : x = y := by
  apply UInt8.toNat_inj.1
  simp only [UInt8.lt_iff_toNat_lt] at h h2; omega
theorem leL_antisymm : ∀ a b : List UInt8, leL a b = true → leL b a = true → a = b
  | [], [], _, _ => rfl
  | [], _ :: _, _, h => by simp [leL] at h
  | _ :: _, [], h, _ => by simp [leL] at h
  | x :: xs, y :: ys, h, h' => by
    simp only [leL] at h h'
    by_cases h1 : x < y
    · have h2 : ¬ y < x := by simp only [UInt8.lt_iff_toNat_lt] at h1 ⊢; omega
      simp [h1, h2] at h'
    · by_cases h2 : y < x
      · simp [h1, h2] at h
      · simp only [h1, h2, if_false] at h h'
        rw [u8_eq h1 h2, leL_antisymm xs ys h h']
theorem leL_trans : ∀ a b c : List UInt8, leL a b = true → leL b c = true → leL a c = true
  | [], _, _, _, _ => by simp [leL]
  | _ :: _, [], _, h, _ => by simp [leL] at h
  | _ :: _, _ :: _, [], _, h => by simp [leL] at h
  | x :: xs, y :: ys, z :: zs, h, h' => by
    simp only [leL] at h h' ⊢
    by_cases h1 : x < y
    · by_cases h3 : y < z
      · have : x < z := by simp only [UInt8.lt_iff_toNat_lt] at *; omega
        simp [this]
      · by_cases h4 : z < y
        · simp [h3, h4] at h'
        · have e := u8_eq h3 h4
          subst e; simp [h1]
    · by_cases h2 : y < x
      · simp [h1, h2] at h
      · have e := u8_eq h1 h2
        subst e
        simp only [h1, if_false] at h
        by_cases h3 : x < z
        · simp [h3]
        · by_cases h4 : z < x
          · simp [h3, h4] at h'
          · simp only [h3, h4, if_false] at h' ⊢
            exact leL_trans xs ys zs h h'

/-- .. of two strings. -/
def le (a b : ByteArray) : Bool := leL a.data.toList b.data.toList
theorem data_inj {a b : ByteArray} (h : a.data.toList = b.data.toList) : a = b := by
  cases a; cases b; simp at h; rw [h]
theorem le_total (a b : ByteArray) : le a b = true ∨ le b a = true := leL_total _ _
theorem le_refl (a : ByteArray) : le a a = true := by rcases le_total a a with h | h <;> exact h
theorem le_antisymm {a b : ByteArray} (h : le a b = true) (h' : le b a = true) : a = b := data_inj (leL_antisymm _ _ h h')
theorem le_trans {a b c : ByteArray} (h : le a b = true) (h' : le b c = true) : le a c = true := leL_trans _ _ _ h h'
theorem le_of_not {a b : ByteArray} (h : le a b = false) : le b a = true := by
  rcases le_total a b with h' | h'
  · rw [h] at h'; cases h'
  · exact h'

/-- What compareTexts answers. -/
def cmpT (a b : ByteArray) : Int := if le a b = true then (if le b a = true then 0 else -1) else 1
theorem cmpT_le {a b : ByteArray} : cmpT a b ≤ 0 ↔ le a b = true := by
  unfold cmpT
  by_cases h : le a b = true
  · simp only [h, if_true]; by_cases h2 : le b a = true <;> simp [h2]
  · simp [h]
theorem cmpT_zero {a b : ByteArray} : cmpT a b = 0 ↔ a = b := by
  unfold cmpT
  by_cases h : le a b = true
  · by_cases h2 : le b a = true
    · rw [if_pos h, if_pos h2]; exact ⟨fun _ => le_antisymm h h2, fun _ => rfl⟩
    · simp [h, h2]; intro e; subst e; exact absurd (le_refl a) (by simpa using h2)
  · simp [h]; intro e; subst e; exact absurd (le_refl a) (by simpa using h)

/-! ### segments of a row that is given by a function -/
section
variable {α : Type}
def seg (f : Nat → α) (a b : Nat) : List α := (List.range' a (b - a)).map f
theorem seg_nil (f : Nat → α) {a b : Nat} (h : b ≤ a) : seg f a b = [] := by unfold seg; rw [show b - a = 0 from by omega]; rfl
theorem seg_snoc (f : Nat → α) {a b : Nat} (h : a ≤ b) : seg f a (b + 1) = seg f a b ++ [f b] := by
  unfold seg
  rw [show b + 1 - a = (b - a) + 1 from by omega, List.range'_concat, List.map_append]
  simp [show a + (b - a) = b from by omega]
theorem seg_append (f : Nat → α) {a b c : Nat} (h : a ≤ b) (h' : b ≤ c) : seg f a b ++ seg f b c = seg f a c := by
  unfold seg
  rw [← List.map_append]
  have := @List.range'_append_1 a (b - a) (c - b)
  rw [show a + (b - a) = b from by omega, show b - a + (c - b) = c - a from by omega] at this
  rw [this]
theorem seg_congr {f g : Nat → α} {a b : Nat} (h : ∀ j, a ≤ j → j < b → f j = g j) : seg f a b = seg g a b := by
  unfold seg
  apply List.map_congr_left
  intro j hj
  rw [List.mem_range'_1] at hj
  exact h j hj.1 (by omega)
theorem seg_length (f : Nat → α) (a b : Nat) : (seg f a b).length = b - a := by simp [seg]
theorem seg_get (f : Nat → α) {a b j : Nat} (h : j < b - a) : (seg f a b)[j]'(by rw [seg_length]; exact h) = f (a + j) := by simp [seg]
end

/-- Sorted on the segment. -/
def SortedOn (f : Nat → ByteArray) (a b : Nat) : Prop := ∀ p q, a ≤ p → p ≤ q → q < b → le (f p) (f q) = true
/-- Every aligned run of width w is sorted. -/
def Runs (f : Nat → ByteArray) (n w : Nat) : Prop := ∀ m, SortedOn f (m * w) (min ((m + 1) * w) n)

/-- THE STATE OF ONE MERGE: s[lo:mid] and s[mid:hi] into buf[lo:hi]; at place k. -/
structure Merging (s b : Nat → ByteArray) (lo mid hi i j k : Nat) : Prop where
  hi1 : lo ≤ i
  hi2 : i ≤ mid
  hj1 : mid ≤ j
  hj2 : j ≤ hi
  hk : k = i + (j - mid)
  perm : (seg b lo k).Perm (seg s lo i ++ seg s mid j)
  sorted : SortedOn b lo k
  low1 : ∀ t q, lo ≤ t → t < k → i ≤ q → q < mid → le (b t) (s q) = true
  low2 : ∀ t q, lo ≤ t → t < k → j ≤ q → q < hi → le (b t) (s q) = true
theorem Merging.start {s b : Nat → ByteArray} {lo mid hi : Nat} (h : lo ≤ mid) (h' : mid ≤ hi) : Merging s b lo mid hi lo mid lo :=
  ⟨Nat.le_refl _, h, Nat.le_refl _, h', by omega, by rw [seg_nil _ (Nat.le_refl _), seg_nil _ (Nat.le_refl _), seg_nil _ (Nat.le_refl _)]; exact List.Perm.refl _,
    fun p q h1 h2 h3 => by omega, fun t q h1 h2 => by omega, fun t q h1 h2 => by omega⟩
/-- One element laid at place k. -/
def put (b : Nat → ByteArray) (k : Nat) (v : ByteArray) : Nat → ByteArray := fun j => if j = k then v else b j
theorem put_at (b : Nat → ByteArray) (k : Nat) (v : ByteArray) : put b k v k = v := by simp [put]
theorem put_ne (b : Nat → ByteArray) {k j : Nat} (v : ByteArray) (h : j ≠ k) : put b k v j = b j := by simp [put, h]
theorem seg_put {b : Nat → ByteArray} {lo k : Nat} {v : ByteArray} (h : lo ≤ k) : seg (put b k v) lo (k + 1) = seg b lo k ++ [v] := by
  rw [seg_snoc _ h, put_at, seg_congr (g := b) (fun j _ hj => put_ne b v (by omega))]
theorem sorted_put {b : Nat → ByteArray} {lo k : Nat} {v : ByteArray} (h : SortedOn b lo k) (hv : ∀ t, lo ≤ t → t < k → le (b t) v = true) : SortedOn (put b k v) lo (k + 1) := by
  intro p q h1 h2 h3
  by_cases e : q = k
  · subst e
    rw [put_at]
    by_cases e2 : p = q
    · subst e2; rw [put_at]; exact le_refl _
    · rw [put_ne b v e2]; exact hv p h1 (by omega)
  · rw [put_ne b v e, put_ne b v (by omega)]; exact h p q h1 h2 (by omega)
theorem Merging.left {s b : Nat → ByteArray} {lo mid hi i j k : Nat} (h : Merging s b lo mid hi i j k) (hs1 : SortedOn s lo mid) (hs2 : SortedOn s mid hi) (hlt : i < mid) (hle : hi ≤ j ∨ le (s i) (s j) = true) :
    Merging s (put b k (s i)) lo mid hi (i + 1) j (k + 1) := by
  obtain ⟨a1, a2, a3, a4, a5, a6, a7, a8, a9⟩ := h
  refine ⟨by omega, by omega, a3, a4, by omega, ?_, sorted_put a7 (fun t h1 h2 => a8 t i h1 h2 (Nat.le_refl _) hlt), ?_, ?_⟩
  · rw [seg_put (by omega), seg_snoc _ a1]
    refine (a6.append_right _).trans ?_
    rw [List.append_assoc, List.append_assoc]
    exact List.Perm.append_left _ List.perm_append_comm
  · intro t q h1 h2 h3 h4
    by_cases e : t = k
    · subst e; rw [put_at]; exact hs1 i q a1 (by omega) h4
    · rw [put_ne b _ e]; exact a8 t q h1 (by omega) (by omega) h4
  · intro t q h1 h2 h3 h4
    by_cases e : t = k
    · subst e
      rw [put_at]
      rcases hle with hle | hle
      · omega
      · exact le_trans hle (hs2 j q a3 h3 h4)
    · rw [put_ne b _ e]; exact a9 t q h1 (by omega) h3 h4
theorem Merging.right {s b : Nat → ByteArray} {lo mid hi i j k : Nat} (h : Merging s b lo mid hi i j k) (hs1 : SortedOn s lo mid) (hs2 : SortedOn s mid hi) (hj : j < hi) (hle : mid ≤ i ∨ le (s j) (s i) = true) :
    Merging s (put b k (s j)) lo mid hi i (j + 1) (k + 1) := by
  obtain ⟨a1, a2, a3, a4, a5, a6, a7, a8, a9⟩ := h
  refine ⟨a1, a2, by omega, by omega, by omega, ?_, sorted_put a7 (fun t h1 h2 => a9 t j h1 h2 (Nat.le_refl _) hj), ?_, ?_⟩
  · rw [seg_put (by omega), seg_snoc _ a3, ← List.append_assoc]
    exact a6.append_right _
  · intro t q h1 h2 h3 h4
    by_cases e : t = k
    · subst e
      rw [put_at]
      rcases hle with hle | hle
      · omega
      · exact le_trans hle (hs1 i q a1 h3 h4)
    · rw [put_ne b _ e]; exact a8 t q h1 (by omega) h3 h4
  · intro t q h1 h2 h3 h4
    by_cases e : t = k
    · subst e; rw [put_at]; exact hs2 j q a3 (by omega) h4
    · rw [put_ne b _ e]; exact a9 t q h1 (by omega) (by omega) h4
/-- The merge is done. -/
theorem Merging.done {s b : Nat → ByteArray} {lo mid hi i j k : Nat} (h : Merging s b lo mid hi i j k) (hk : k = hi) : (seg b lo hi).Perm (seg s lo hi) ∧ SortedOn b lo hi := by
  obtain ⟨a1, a2, a3, a4, a5, a6, a7, a8, a9⟩ := h
  have e1 : i = mid := by omega
  have e2 : j = hi := by omega
  subst e1; subst e2; subst hk
  rw [seg_append s a1 a3] at a6
  exact ⟨a6, a7⟩
/-- What lies ahead of lo is not touched by a merge. -/
theorem put_below {b : Nat → ByteArray} {k : Nat} {v : ByteArray} {lo : Nat} {b0 : Nat → ByteArray} (h : ∀ t, t < lo → b t = b0 t) (hk : lo ≤ k) : ∀ t, t < lo → put b k v t = b0 t := fun t ht => by rw [put_ne b v (by omega)]; exact h t ht

/-! ### the lo loop -/
/-- Behind m merges of width w (lo = m * (2 w)): buf's first lo places are a rearrangement of s's, run by run sorted. -/
structure Merged (s b : Nat → ByteArray) (n w m lo : Nat) : Prop where
  hlo : lo = m * (2 * w)
  perm : (seg b 0 (min lo n)).Perm (seg s 0 (min lo n))
  runs : ∀ r, r < m → SortedOn b (r * (2 * w)) (min ((r + 1) * (2 * w)) n)
theorem Merged.start (s b : Nat → ByteArray) (n w : Nat) : Merged s b n w 0 0 :=
  ⟨by simp, by rw [seg_nil b (by omega), seg_nil s (by omega)], fun r h => by omega⟩
theorem sorted_congr {b b' : Nat → ByteArray} {p q : Nat} (h : SortedOn b p q) (he : ∀ t, t < q → b' t = b t) : SortedOn b' p q := by
  intro x y h1 h2 h3
  rw [he x (by omega), he y h3]; exact h x y h1 h2 h3
theorem Merged.step {s b b' : Nat → ByteArray} {n w m lo hi : Nat} (h : Merged s b n w m lo) (hn : lo < n) (hw : 1 ≤ w) (hhi : hi = min (lo + 2 * w) n) (hb : ∀ t, t < lo → b' t = b t) (hp : (seg b' lo hi).Perm (seg s lo hi)) (hs : SortedOn b' lo hi) :
    Merged s b' n w (m + 1) (lo + 2 * w) := by
  have e1 : (m + 1) * (2 * w) = lo + 2 * w := by rw [Nat.add_mul, Nat.one_mul, ← h.hlo]
  refine ⟨e1.symm, ?_, fun r hr => ?_⟩
  · have e2 : min (lo + 2 * w) n = hi := hhi.symm
    have e3 : min lo n = lo := by omega
    have hp0 := h.perm
    rw [e3] at hp0
    rw [e2, ← seg_append b' (Nat.zero_le lo) (show lo ≤ hi by omega), ← seg_append s (Nat.zero_le lo) (show lo ≤ hi by omega)]
    rw [seg_congr (f := b') (g := b) (a := 0) (b := lo) (fun j _ hj => hb j hj)]
    exact hp0.append hp
  · by_cases e : r = m
    · subst e
      rw [e1, ← h.hlo, ← hhi]; exact hs
    · have h0 := h.runs r (by omega)
      have hle : (r + 1) * (2 * w) ≤ lo := by rw [h.hlo]; exact Nat.mul_le_mul_right _ (by omega)
      exact sorted_congr h0 (fun t ht => hb t (by omega))
theorem Merged.done {s b : Nat → ByteArray} {n w m lo : Nat} (h : Merged s b n w m lo) (hn : n ≤ lo) : (seg b 0 n).Perm (seg s 0 n) ∧ Runs b n (2 * w) := by
  have e3 : min lo n = n := by omega
  have hp0 := h.perm
  rw [e3] at hp0
  refine ⟨hp0, fun r => ?_⟩
  by_cases e : r < m
  · exact h.runs r e
  · have hle : lo ≤ r * (2 * w) := by rw [h.hlo]; exact Nat.mul_le_mul_right _ (by omega)
    intro p q h1 h2 h3
    omega
/-- The two runs that a merge takes. -/
theorem Runs.two {s : Nat → ByteArray} {n w m lo mid hi : Nat} (h : Runs s n w) (hlo : lo = m * (2 * w)) (hmid : mid = min (lo + w) n) (hhi : hi = min (lo + 2 * w) n) : SortedOn s lo mid ∧ SortedOn s mid hi := by
  have e0 : (2 * m) * w = lo := by rw [hlo, Nat.mul_comm 2 m, Nat.mul_assoc]
  have e1 : (2 * m + 1) * w = lo + w := by rw [Nat.add_mul, e0, Nat.one_mul]
  have e2 : (2 * m + 1 + 1) * w = lo + 2 * w := by rw [Nat.add_mul, e1, Nat.one_mul]; omega
  have h0 := h (2 * m)
  have h1 := h (2 * m + 1)
  rw [e0, e1, ← hmid] at h0
  rw [e1, e2, ← hhi] at h1
  refine ⟨h0, fun p q h2 h3 h4 => ?_⟩
  by_cases hc : lo + w ≤ n
  · exact h1 p q (by omega) h3 h4
  · omega
theorem Runs.one (s : Nat → ByteArray) (n : Nat) : Runs s n 1 := by
  intro m p q h1 h2 h3
  have : p = q := by simp at h1 h3; omega
  subst this; exact le_refl _
theorem Runs.whole {s : Nat → ByteArray} {n w : Nat} (h : Runs s n w) (hw : n ≤ w) : SortedOn s 0 n := by
  have h0 := h 0
  rw [Nat.zero_mul, Nat.zero_add, Nat.one_mul, show min w n = n from by omega] at h0
  exact h0
theorem Runs.congr {s b : Nat → ByteArray} {n w : Nat} (h : Runs b n w) (he : ∀ t, t < n → s t = b t) : Runs s n w :=
  fun m => sorted_congr (h m) (fun t ht => he t (by omega))
end Go.Proofs.Qxb6600942a
