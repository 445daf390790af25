import Derived.Test.Qxb6600942aSortWalk
namespace Go.Proofs.Qxb6600942a
open Go.RowKit
set_option linter.unusedVariables false

theorem dup_iff (ss : List ByteArray) : Dup ss ↔ ¬ ss.Nodup := by
  unfold List.Nodup
  rw [List.pairwise_iff_getElem]
  constructor
  · rintro ⟨i, j, hij, hj, e⟩ h
    rw [nm_get hj, nm_get (show i < ss.length by omega)] at e
    exact h i j (by omega) hj hij e
  · intro h
    apply Classical.byContradiction
    intro hd
    apply h
    intro i j hi hj hij e
    exact hd ⟨i, j, hij, hj, by rw [nm_get hj, nm_get hi]; exact e⟩
theorem seg_nm (ss : List ByteArray) : seg (nm ss) 0 ss.length = ss := by
  apply List.ext_getElem
  · rw [seg_length]; omega
  · intro j h1 h2
    rw [seg_get _ (by rw [seg_length] at h1; exact h1), Nat.zero_add, nm_get h2]
/-- Sorted names repeat just if two neighbours are the same. -/
theorem neighbours {ss : List ByteArray} {n : Nat} {f : Nat → ByteArray} (hl : ss.length = n) (hs : SortedOn f 0 n) (hp : (seg f 0 n).Perm (seg (nm ss) 0 n)) :
    (∃ t, 1 ≤ t ∧ t < n ∧ f (t - 1) = f t) ↔ Dup ss := by
  subst hl
  rw [seg_nm] at hp
  rw [dup_iff, ← hp.nodup_iff]
  unfold List.Nodup
  rw [List.pairwise_iff_getElem]
  constructor
  · rintro ⟨t, h1, h2, e⟩ h
    have := h (t - 1) t (by rw [seg_length]; omega) (by rw [seg_length]; omega) (by omega)
    rw [seg_get _ (by omega), seg_get _ (by omega), Nat.zero_add, Nat.zero_add] at this
    exact this e
  · intro h
    apply Classical.byContradiction
    intro hd
    apply h
    intro i j hi hj hij e
    rw [seg_length] at hi hj
    rw [seg_get _ (by omega), seg_get _ (by omega), Nat.zero_add, Nat.zero_add] at e
    refine hd ⟨i + 1, by omega, by omega, ?_⟩
    have h1 := hs i (i + 1) (by omega) (by omega) (by omega)
    have h2 := hs (i + 1) j (by omega) (by omega) (by omega)
    rw [← e] at h2
    exact le_antisymm h1 h2
theorem mixed_row (ss : List ByteArray) (n : Nat) : mixed ss n n = row (nm ss) n := by
  apply List.ext_getElem?
  intro j
  by_cases h : j < n
  · rw [mixed_get _ _ _ _ h, row_get _ h, if_pos h]
  · rw [List.getElem?_eq_none (by rw [mixed_length]; omega), List.getElem?_eq_none (by rw [row_length]; omega)]

theorem sort_nil (w : World) :
    Calls Try.prog 12 #[.slice none 0 0] w fun e w' => e = .returned (.tuple #[]) ∧ Below w.heap.size w w' := by
  obtain ⟨i0, hi, hz0, hz1, hz2⟩ := info_parts Try.info9
  go_enter Try.func12, Try.ntmps12
  go_wp2_with (at_make; refine wpList_make_full _ rfl _ _ 22 rfl w.heap.size 9 i0 (.string ByteArray.empty) 1 Try.underlying22 hi hz0 hz1 .i64 .i64 _ _ 0 rfl rfl rfl rfl (by rw [hz2]; omega) (by unfold maxLen; omega) (Nat.le_refl _) ?_; intro w1 hown1 hg1)
  have hb1 : Below w.heap.size w w1 := (Below.refl _ _).grown hg1 (Nat.le_refl _) (fun k h => by simp at h)
  clear hown1 hg1
  refine wp_loop_rounds 1 ?_
  rw [rounds_succ]
  go_wp2
  go_end0
  exact ⟨rfl, hb1⟩

set_option maxRecDepth 100000 in
set_option maxHeartbeats 2000000 in
theorem sort_walk (a : Option Addr) (n cap : Nat) (ss : List ByteArray) (w : World) (hS : Strs w a n cap ss) (hn : n ≤ maxLen) :
    Calls Try.prog 3 #[.slice a n cap] w fun e w' => e = .returned (.bool true) ∧ Below w.heap.size w w' := by
  have HS : Hid (Strs w a n cap ss) := hS
  have hn' := hn
  unfold maxLen at hn'
  clear hS
  go_enter Try.func3, Try.ntmps3
  go_wp2_with fail
  refine (bytes7_any a n cap ss _ HS.out hn).mono ?_
  rintro e w' ⟨hres, rfl⟩
  rcases hres with rfl | ⟨rfl, hbd⟩
  · go_wp2
    go_ret
    exact ⟨rfl, Below.refl _ _⟩
  by_cases hbig : 65536 < n
  · go_wp2
    go_ret
    exact ⟨rfl, Below.refl _ _⟩
  clear hn
  go_wp2_with fail
  refine (texts_any a n cap ss _ HS.out (by omega)).mono ?_
  rintro e w' ⟨he, rfl⟩
  obtain ⟨T, hT⟩ : ∃ T : Int, T = ((16 * n + slen ss : Nat) : Int) := ⟨_, rfl⟩
  rw [← hT] at he
  subst he
  clear hT
  by_cases hbig2 : (1048576 : Int) < T
  · go_wp2
    go_ret
    exact ⟨rfl, Below.refl _ _⟩
  go_wp2_with fail
  refine (clone_any a n cap ss _ HS.out (by omega)).mono ?_
  rintro e w1 ⟨a1, rfl, hS1, hb1⟩
  have HS1 : Hid (Strs w1 a1 n n ss) := hS1
  clear hS1
  go_wp2_with fail
  refine (members_any a1 n n ss _ HS1.out (by omega)).mono ?_
  rintro e w2 ⟨rfl, hM2, hb2⟩
  have HM2 : Hid (MRow w2 w1.heap.size n ss) := hM2
  clear hM2
  have HSZ : Hid (∀ i, (nm ss i).size ≤ 1048576) := fun i => by have := size_le_slen ss i; omega
  go_wp2_with fail
  refine (zzrep_any w1.heap.size n n ss _ HM2.out (Nat.le_refl _) (by omega) (fun i => Nat.le_trans (HSZ.out i) (by unfold maxLen; omega))).mono ?_
  rintro e w3 ⟨b1, rfl, hB1, hb3⟩
  have HB1 : Hid (b1 = true ↔ Dup ss) := hB1
  have h13 : Below w.heap.size w w3 := (hb1.trans (hb2.mono hb1.size)).trans (hb3.mono (Nat.le_trans hb1.size hb2.size))
  have HS3 : Hid (Strs w3 a1 n n ss) := (HS1.out.later hb2 (Nat.le_refl _)).later hb3 (Nat.le_refl _)
  clear hB1 HM2 hb1 hb2 hb3
  cases a1 with
  | none =>
    obtain ⟨rfl, _⟩ := HS3.out.2.1 rfl
    have hb : b1 = false := by
      cases b1
      · rfl
      · obtain ⟨i, j, hij, hj, e⟩ := HB1.out.1 rfl
        rw [HS3.out.1] at hj
        omega
    subst hb
    go_wp2_with fail
    refine (clone_nil 0 0 _).mono ?_
    rintro e w4 ⟨rfl, rfl⟩
    go_wp2_with fail
    refine (sort_nil _).mono ?_
    rintro e w5 ⟨rfl, hb5⟩
    go_wp2
    refine wp_loop_rounds 1 ?_
    rw [rounds_succ]
    go_wp2
    go_ret
    exact ⟨rfl, h13.trans (hb5.mono h13.size)⟩
  | some x =>
    go_wp2_with fail
    refine (clone_some x n n ss _ HS3.out (by omega)).mono ?_
    rintro e w4 ⟨rfl, hown4, hb4⟩
    rw [mixed_row] at hown4
    have HO4 : Hid (w4.ownsRow w3.heap.size 9 1 (.slice (some ⟨w3.heap.size, 0, none⟩) n n) n (row (nm ss) n)) := hown4
    clear hown4
    go_wp2_with fail
    refine (sort_any w3.heap.size n (nm ss) _ (by omega) HO4.out (fun j _ => HSZ.out j)).mono ?_
    rintro e w5 ⟨rfl, f', hS5, hsorted, hperm, hb5⟩
    have HNB : Hid ((∃ t, 1 ≤ t ∧ t < n ∧ f' (t - 1) = f' t) ↔ Dup ss) := neighbours HS3.out.1 hsorted hperm
    have HS5 : Hid (∀ j, j < n → w5.cell? ⟨w3.heap.size, j, none⟩ = some (.string (f' j))) := fun j hj => by
      have := hS5.2.2 _ rfl j hj
      rw [Addr.add_lit, Nat.zero_add] at this
      rw [this]; simp [nm, List.getD, hj]
    have fin : Below w.heap.size w w5 := (h13.trans (hb4.mono h13.size)).trans (hb5.mono h13.size)
    clear hS5 hsorted hperm hb5 HO4 hb4 h13
    go_wp2
    go_loopw [5, 6] (fun p i wr => ∃ (k m : Nat) (q : Bool), 1 ≤ k ∧ i = .int .i64 k ∧ p = .bool q ∧ Hid (q = true ↔ ∃ t, 1 ≤ t ∧ t < k ∧ t < n ∧ f' (t - 1) = f' t) ∧ wr = w5.drewN m) (fun _ i _ => n - (intOf i).toNat)
    case atStart => exact ⟨1, 0, false, by omega, rfl, rfl, ⟨fun h => (by cases h), fun ⟨t, h1, h2, _⟩ => by omega⟩, rfl⟩
    case round =>
      obtain ⟨k, m, q, hk, rfl, rfl, HQ, rfl⟩ := hrel
      by_cases hkn : k < n
      · obtain ⟨k0, rfl⟩ : ∃ k0, k = k0 + 1 := ⟨k - 1, by omega⟩
        have c1 := HS5.out (k0 + 1) hkn
        have c0 := HS5.out k0 (by omega)
        have j1 : (k0 : Int) + 1 < n := by omega
        have j0 : (k0 : Int) < n := by omega
        by_cases hs : f' k0 = f' (k0 + 1)
        · have hs' := (eqB_iff _ _).2 hs
          have HE : Hid (∃ t, 1 ≤ t ∧ t < k0 + 1 + 1 ∧ t < n ∧ f' (t - 1) = f' t) := ⟨k0 + 1, by omega, by omega, hkn, hs⟩
          clear hs
          obtain ⟨s1, h1⟩ : ∃ s, s = f' k0 := ⟨_, rfl⟩
          obtain ⟨s2, h2⟩ : ∃ s, s = f' (k0 + 1) := ⟨_, rfl⟩
          rw [← h1] at c0 hs'
          rw [← h2] at c1 hs'
          clear h1 h2
          go_wp2
          go_quiet (fail)
          go_wp2
          go_roundw
          case rel => exact ⟨k0 + 1 + 1, _, true, by omega, by go_num, rfl, ⟨fun _ => HE.out, fun _ => rfl⟩, rfl⟩
          case measure => simp [intOf]; omega
        · have hs' := eqB_false hs
          have HQ' : Hid (q = true ↔ ∃ t, 1 ≤ t ∧ t < k0 + 1 + 1 ∧ t < n ∧ f' (t - 1) = f' t) := by
            refine HQ.out.trans ⟨fun ⟨t, h1, h2, h3, e⟩ => ⟨t, h1, by omega, h3, e⟩, fun ⟨t, h1, h2, h3, e⟩ => ⟨t, h1, ?_, h3, e⟩⟩
            by_cases e2 : t = k0 + 1
            · subst e2; exact absurd e hs
            · omega
          clear hs
          obtain ⟨s1, h1⟩ : ∃ s, s = f' k0 := ⟨_, rfl⟩
          obtain ⟨s2, h2⟩ : ∃ s, s = f' (k0 + 1) := ⟨_, rfl⟩
          rw [← h1] at c0 hs'
          rw [← h2] at c1 hs'
          clear h1 h2
          go_wp2
          go_quiet (fail)
          go_wp2
          go_roundw
          case rel => exact ⟨k0 + 1 + 1, _, q, by omega, by go_num, rfl, HQ', rfl⟩
          case measure => simp [intOf]; omega
      · have e : b1 = q := by
          have h1 := HB1.out
          have h2 := HNB.out
          have h3 := HQ.out
          have h4 : q = true ↔ Dup ss := by
            rw [h3, ← h2]
            exact ⟨fun ⟨t, a, _, c, d⟩ => ⟨t, a, c, d⟩, fun ⟨t, a, c, d⟩ => ⟨t, a, by omega, c, d⟩⟩
          have h5 := h1.trans h4.symm
          cases b1 <;> cases q <;> simp_all
        subst e
        cases b1
        all_goals
          go_wp2
          go_ret
          exact ⟨rfl, below_drewN fin _⟩
end Go.Proofs.Qxb6600942a
