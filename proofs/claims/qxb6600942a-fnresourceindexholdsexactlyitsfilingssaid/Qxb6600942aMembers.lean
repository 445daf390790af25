import Derived.Test.Qxb6600942aNames
namespace Go.Proofs.Qxb6600942a
open Go.RowKit
set_option linter.unusedVariables false

/-- Cell c of a row of members of which the first k are filled. -/
def memCell (ss : List ByteArray) (k c : Nat) : Value :=
  if c % 3 = 0 then .string (if c / 3 < k then nm ss (c / 3) else ByteArray.empty) else if c % 3 = 1 then .int .i64 (if c / 3 < k then ((c / 3 : Nat) : Int) else 0) else .pointer none
def mems (ss : List ByteArray) (n k : Nat) : List Value := (List.range (n * 3)).map (memCell ss k)
theorem mems_length (ss : List ByteArray) (n k : Nat) : (mems ss n k).length = n * 3 := by simp [mems]
theorem mems_get (ss : List ByteArray) (n k c : Nat) (h : c < n * 3) : (mems ss n k)[c]? = some (memCell ss k c) := by simp [mems, h]
theorem mems_zero (ss : List ByteArray) (n : Nat) : (madeCells #[.string ByteArray.empty, .int .i64 0, .pointer none] (n * 3)).toList = mems ss n 0 := by
  apply List.ext_getElem?
  intro c
  by_cases h : c < n * 3
  · rw [mems_get _ _ _ _ h]
    have h3 : c % 3 < 3 := Nat.mod_lt _ (by decide)
    simp only [madeCells, memCell]
    rcases (show c % 3 = 0 ∨ c % 3 = 1 ∨ c % 3 = 2 from by omega) with e | e | e <;> simp [h, e]
  · rw [List.getElem?_eq_none (by simp [madeCells]; omega), List.getElem?_eq_none (by rw [mems_length]; omega)]
theorem mems_set (ss : List ByteArray) (n k : Nat) :
    (((mems ss n k).set (k * 3) (.string (nm ss k))).set (k * 3 + 1) (.int .i64 k)).set (k * 3 + 2) (.pointer none) = mems ss n (k + 1) := by
  apply List.ext_getElem?
  intro c
  by_cases h : c < n * 3
  · simp only [List.getElem?_set, List.length_set, mems_length, mems_get _ _ _ _ h]
    by_cases e2 : k * 3 + 2 = c
    · subst e2
      have a : (k * 3 + 2) % 3 = 2 := by omega
      simp [memCell, a, h]
    · rw [if_neg e2]
      by_cases e1 : k * 3 + 1 = c
      · subst e1
        have a : (k * 3 + 1) % 3 = 1 := by omega
        have b : (k * 3 + 1) / 3 = k := by omega
        simp [memCell, a, b, h]
      · rw [if_neg e1]
        by_cases e0 : k * 3 = c
        · subst e0
          have a : (k * 3) % 3 = 0 := by omega
          have b : (k * 3) / 3 = k := by omega
          simp [memCell, a, b, h]
        · rw [if_neg e0]
          have : (c / 3 < k + 1) = (c / 3 < k) := by simp; omega
          simp only [memCell, this]
  · rw [List.getElem?_eq_none (by simp [mems_length]; omega), List.getElem?_eq_none (by rw [mems_length]; omega)]

/-- A row of members, all filled. -/
def MRow (w : World) (g n : Nat) (ss : List ByteArray) : Prop :=
  g < w.heap.size ∧ ss.length = n ∧ ∀ i, i < n → w.cell? ⟨g, i * 3, none⟩ = some (.string (nm ss i)) ∧ w.cell? ⟨g, i * 3 + 1, none⟩ = some (.int .i64 i) ∧ w.cell? ⟨g, i * 3 + 2, none⟩ = some (.pointer none)
theorem MRow.of_own {w : World} {B g n cap : Nat} {ss : List ByteArray} (hl : ss.length = n) (h : w.ownsRow B 60 3 (.slice (some ⟨g, 0, none⟩) n cap) n (mems ss n n)) : MRow w g n ss := by
  refine ⟨own_lt h, hl, fun i hi => ⟨?_, ?_, ?_⟩⟩
  · rw [h.cellAt _ (by omega), mems_get _ _ _ _ (by omega), memCell, if_pos (by omega), show i * 3 / 3 = i from by omega, if_pos hi]
  · rw [h.cellAt _ (by omega), mems_get _ _ _ _ (by omega), memCell, if_neg (by omega), if_pos (by omega), show (i * 3 + 1) / 3 = i from by omega, if_pos hi]
  · rw [h.cellAt _ (by omega), mems_get _ _ _ _ (by omega), memCell, if_neg (by omega), if_neg (by omega)]

set_option maxHeartbeats 400000 in
theorem members_any (a : Option Addr) (n cap : Nat) (ss : List ByteArray) (w : World) (hS : Strs w a n cap ss) (hn : n ≤ 1048576) :
    Calls Try.prog 11 #[.slice a n cap] w fun e w' => e = .returned (.slice (some ⟨w.heap.size, 0, none⟩) n n) ∧ MRow w' w.heap.size n ss ∧ Below w.heap.size w w' := by
  obtain ⟨i0, hi, hz0, hz1, hz2⟩ := info_parts Try.info60
  have HS : Hid (Strs w a n cap ss) := hS
  clear hS
  go_enter Try.func11, Try.ntmps11
  go_wp2_with (at_make; refine wpList_make_full _ rfl _ _ 27 rfl w.heap.size 60 i0 (.agg #[.string ByteArray.empty, .int .i64 0, .pointer none]) 3 Try.underlying27 hi hz0 hz1 .i64 .i64 _ _ n rfl rfl rfl rfl (by rw [hz2]; omega) (by unfold maxLen; omega) (Nat.le_refl _) ?_; intro w1 hown1 hg1)
  have hb1 : Below w.heap.size w w1 := (Below.refl _ _).grown hg1 (Nat.le_refl _) (fun k h => by simp at h)
  rw [show (Value.agg #[.string ByteArray.empty, .int .i64 0, .pointer none]).cells = #[.string ByteArray.empty, .int .i64 0, .pointer none] from rfl, mems_zero ss n] at hown1
  clear hg1
  go_loopw [4] (fun i wr => ∃ k : Nat, k ≤ n ∧ i = .int .i64 k ∧ wr.ownsRow w.heap.size 60 3 (.slice (some ⟨w.heap.size, 0, none⟩) n n) n (mems ss n k) ∧ Below w.heap.size w wr) (fun i _ => n - (intOf i).toNat)
  case atStart => exact ⟨0, by omega, rfl, hown1, hb1⟩
  case round =>
    clear hown1 hb1
    obtain ⟨k, hk, rfl, hown, hbr⟩ := hrel
    by_cases hlt : k < n
    · obtain ⟨yb, yo, rfl, hc, hyl⟩ := HS.out.at hlt
      have hc' : wr.cell? ⟨yb, yo + k, none⟩ = some (.string (nm ss k)) := by rw [hbr.cell hyl]; exact hc
      have d0 : wr.cell? ⟨w.heap.size, k * 3, none⟩ = some (memCell ss k (k * 3)) := by rw [hown.cellAt _ (by omega), mems_get _ _ _ _ (by omega)]
      have d1 : wr.cell? ⟨w.heap.size, k * 3 + 1, none⟩ = some (memCell ss k (k * 3 + 1)) := by rw [hown.cellAt _ (by omega), mems_get _ _ _ _ (by omega)]
      have d2 : wr.cell? ⟨w.heap.size, k * 3 + 2, none⟩ = some (memCell ss k (k * 3 + 2)) := by rw [hown.cellAt _ (by omega), mems_get _ _ _ _ (by omega)]
      have f0 := hown.frozenAt (k * 3)
      have f1 := hown.frozenAt (k * 3 + 1)
      have f2 := hown.frozenAt (k * 3 + 2)
      have R := (((hown.stored (k * 3) (.string (nm ss k))).1.stored (k * 3 + 1) (.int .i64 k)).1.stored (k * 3 + 2) (.pointer none)).1
      rw [mems_set] at R
      have HR : Hid ((((wr.setCell ⟨w.heap.size, k * 3, none⟩ (.string (nm ss k))).setCell ⟨w.heap.size, k * 3 + 1, none⟩ (.int .i64 k)).setCell ⟨w.heap.size, k * 3 + 2, none⟩ (.pointer none)).ownsRow w.heap.size 60 3 (.slice (some ⟨w.heap.size, 0, none⟩) n n) n (mems ss n (k + 1))) := R
      clear hown R hc
      go_wp2
      go_roundw
      case rel => exact ⟨k + 1, by omega, by go_num, HR.out, ((hbr.setCell (Nat.le_refl _) _).setCell (Nat.le_refl _) _).setCell (Nat.le_refl _) _⟩
      case measure => simp [intOf]; omega
    · obtain rfl : k = n := by omega
      go_wp2
      go_ret
      exact ⟨rfl, MRow.of_own HS.out.1 hown, hbr⟩
end Go.Proofs.Qxb6600942a
