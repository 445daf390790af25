import Derived.Test.Qxb6600942aMembers
namespace Go.Proofs.Qxb6600942a
open Go.RowKit
set_option linter.unusedVariables false

/-- Two names are the same. -/
def Dup (ss : List ByteArray) : Prop := ∃ i j, i < j ∧ j < ss.length ∧ nm ss i = nm ss j
/-- No two of the first k are. -/
def NoDup (ss : List ByteArray) (k : Nat) : Prop := ∀ i j, i < j → j < k → nm ss i ≠ nm ss j
theorem eqB_iff (a b : ByteArray) : (a.toList == b.toList) = true ↔ a = b := by
  rw [beq_iff_eq, ByteArray.toList_eq, ByteArray.toList_eq]
  constructor
  · intro h
    cases a; cases b
    simp at h
    rw [h]
  · intro h; rw [h]
theorem eqB_false {a b : ByteArray} (h : a ≠ b) : (a.toList == b.toList) = false := by
  cases e : (a.toList == b.toList)
  · rfl
  · exact absurd ((eqB_iff a b).1 e) h
theorem NoDup.succ {ss : List ByteArray} {k : Nat} (h : NoDup ss k) (h2 : ∀ i, i < k → nm ss i ≠ nm ss k) : NoDup ss (k + 1) := by
  intro i j hij hj
  by_cases e : j = k
  · subst e; exact h2 i hij
  · exact h i j hij (by omega)
theorem NoDup.not_dup {ss : List ByteArray} (h : NoDup ss ss.length) : ¬ Dup ss := by
  rintro ⟨i, j, hij, hj, e⟩
  exact h i j hij hj e

set_option maxHeartbeats 1000000 in
/-- repeatsName at eight members at most. -/
theorem rep_small (g n cap : Nat) (ss : List ByteArray) (w : World) (hM : MRow w g n ss) (hn : n ≤ 8) (hcap : n ≤ cap) :
    Calls Try.prog 34 #[.slice (some ⟨g, 0, none⟩) n cap] w fun e w' => ∃ b : Bool, e = .returned (.bool b) ∧ (b = true ↔ Dup ss) ∧ Below w.heap.size w w' := by
  have HM : Hid (MRow w g n ss) := hM
  have hg : g < w.heap.size := hM.1
  clear hM
  go_enter Try.func34, Try.ntmps34
  go_wp2
  go_loopw [31] (fun i wr => ∃ k : Nat, k ≤ n ∧ i = .int .i64 k ∧ Hid (NoDup ss k) ∧ Below w.heap.size w wr) (fun i _ => n - (intOf i).toNat)
  case atStart => exact ⟨0, by omega, rfl, (fun i j _ h => by omega), Below.refl _ _⟩
  case round =>
    obtain ⟨k, hk, rfl, HN, hbr⟩ := hrel
    by_cases hlt : k < n
    · go_wp2
      go_loopw [38] (fun i wr => ∃ l : Nat, l ≤ k ∧ i = .int .i64 l ∧ Hid (∀ j, j < l → nm ss j ≠ nm ss k) ∧ Below w.heap.size w wr) (fun i _ => k - (intOf i).toNat)
      case atStart => exact ⟨0, by omega, rfl, (fun j h => by omega), hbr⟩
      case round =>
        clear hbr
        obtain ⟨l, hl, rfl, HL, hbl⟩ := hrel
        by_cases hll : l < k
        · obtain ⟨c0, c1, c2⟩ := HM.out.2.2 l (by omega)
          obtain ⟨e0, _, _⟩ := HM.out.2.2 k hlt
          rw [← hbl.cell (p := ⟨g, l * 3, none⟩) hg] at c0
          rw [← hbl.cell (p := ⟨g, l * 3 + 1, none⟩) hg] at c1
          rw [← hbl.cell (p := ⟨g, l * 3 + 2, none⟩) hg] at c2
          rw [← hbl.cell (p := ⟨g, k * 3, none⟩) hg] at e0
          have hgl : g < wr.heap.size := Nat.lt_of_lt_of_le hg hbl.size
          have i1 : (k : Int) < n := by omega
          have i2 : (l : Int) < k := by omega
          by_cases hs : nm ss l = nm ss k
          · have hs' := (eqB_iff _ _).2 hs
            have HD : Hid (Dup ss) := ⟨l, k, hll, by rw [HM.out.2.1]; exact hlt, hs⟩
            clear hs
            obtain ⟨s1, h1⟩ : ∃ s, s = nm ss l := ⟨_, rfl⟩
            obtain ⟨s2, h2⟩ : ∃ s, s = nm ss k := ⟨_, rfl⟩
            rw [← h1] at c0 hs'
            rw [← h2] at e0 hs'
            clear h1 h2
            go_wp2
            go_quiet (fail)
            go_wp2
            go_ret
            exact ⟨true, rfl, ⟨fun _ => HD.out, fun _ => rfl⟩, below_drewN (hbl.alloc hbl.size _) _⟩
          · have hs' := eqB_false hs
            have HL' : Hid (∀ j, j < l + 1 → nm ss j ≠ nm ss k) := by
              intro j hj
              by_cases e : j = l
              · rw [e]; exact hs
              · exact HL.out j (by omega)
            clear hs
            obtain ⟨s1, h1⟩ : ∃ s, s = nm ss l := ⟨_, rfl⟩
            obtain ⟨s2, h2⟩ : ∃ s, s = nm ss k := ⟨_, rfl⟩
            rw [← h1] at c0 hs'
            rw [← h2] at e0 hs'
            clear h1 h2
            go_wp2
            go_quiet (fail)
            go_wp2
            go_roundw
            case rel => exact ⟨l + 1, by omega, by go_num, HL', below_drewN (hbl.alloc hbl.size _) _⟩
            case measure => simp [intOf]; omega
        · obtain rfl : l = k := by omega
          go_wp2
          go_roundw
          case rel => exact ⟨l + 1, by omega, by go_num, HN.out.succ HL.out, hbl⟩
          case measure => simp [intOf]; omega
    · obtain rfl : k = n := by omega
      go_wp2
      go_ret
      refine ⟨false, rfl, ⟨fun h => (by cases h), fun h => ?_⟩, hbr⟩
      have := HN.out
      rw [← HM.out.2.1] at this
      exact absurd h this.not_dup
end Go.Proofs.Qxb6600942a
