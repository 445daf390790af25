import Derived.Test.Qxb6600942aNames
namespace Go.Proofs.Qxb6600942a
open Go.RowKit
set_option linter.unusedVariables false

theorem clone_nil (n cap : Nat) (w : World) :
    Calls Try.prog 9 #[.slice none n cap] w fun e w' => e = .returned (.slice none 0 0) ∧ w = w' := by
  have hne := fun wx => Lib.run_eql_slice_nil (P := Try.prog) wx 22 9 none n cap 0 0 Try.underlying22
  go_enter Try.func9, Try.ntmps9
  go_wp2
  go_ret
  exact ⟨rfl, rfl⟩

set_option maxHeartbeats 400000 in
theorem clone_some (x : Addr) (n cap : Nat) (ss : List ByteArray) (w : World) (hS : Strs w (some x) n cap ss) (hn : n ≤ 1048576) :
    Calls Try.prog 9 #[.slice (some x) n cap] w fun e w' => e = .returned (.slice (some ⟨w.heap.size, 0, none⟩) n n) ∧ w'.ownsRow w.heap.size 9 1 (.slice (some ⟨w.heap.size, 0, none⟩) n n) n (mixed ss n n) ∧ Below w.heap.size w w' := by
  obtain ⟨i0, hi, hz0, hz1, hz2⟩ := info_parts Try.info9
  have hne := fun wx => Lib.run_eql_slice_nil (P := Try.prog) wx 22 9 (some x) n cap 0 0 Try.underlying22
  have HS : Hid (Strs w (some x) n cap ss) := hS
  clear hS
  go_enter Try.func9, Try.ntmps9
  go_wp2_with (at_make; refine wpList_make_full _ rfl _ _ 22 rfl w.heap.size 9 i0 (.string ByteArray.empty) 1 Try.underlying22 hi hz0 hz1 .i64 .i64 _ _ n rfl rfl rfl rfl (by rw [hz2]; omega) (by unfold maxLen; omega) (Nat.le_refl _) ?_; intro w1 hown1 hg1)
  have hb1 : Below w.heap.size w w1 := (Below.refl _ _).grown hg1 (Nat.le_refl _) (fun k h => by simp at h)
  rw [show (Value.string ByteArray.empty).cells = #[.string ByteArray.empty] from rfl, mixed_zero ss n] at hown1
  clear hg1
  go_loopw [4] (fun i wr => ∃ k : Nat, k ≤ n ∧ i = .int .i64 k ∧ wr.ownsRow w.heap.size 9 1 (.slice (some ⟨w.heap.size, 0, none⟩) n n) n (mixed ss n k) ∧ Below w.heap.size w wr) (fun i _ => n - (intOf i).toNat)
  case atStart => exact ⟨0, by omega, rfl, hown1, hb1⟩
  case round =>
    clear hown1 hb1
    obtain ⟨k, hk, rfl, hown, hbr⟩ := hrel
    by_cases hlt : k < n
    · obtain ⟨yb, yo, hx, hc, hyl⟩ := HS.out.at hlt
      cases hx
      have hc' : wr.cell? ⟨yb, yo + k, none⟩ = some (.string (nm ss k)) := by rw [hbr.cell hyl]; exact hc
      have hdst : wr.cell? ⟨w.heap.size, k, none⟩ = some (.string ByteArray.empty) := by rw [hown.cellAt k (by omega), mixed_get _ _ _ _ hlt, if_neg (by omega)]
      have hfz := hown.frozenAt k
      have R := (hown.stored k (.string (nm ss k))).1
      rw [mixed_set] at R
      have HR : Hid ((wr.setCell ⟨w.heap.size, k, none⟩ (.string (nm ss k))).ownsRow w.heap.size 9 1 (.slice (some ⟨w.heap.size, 0, none⟩) n n) n (mixed ss n (k + 1))) := R
      clear hown R hc
      go_wp2
      go_roundw
      case rel => exact ⟨k + 1, by omega, by go_num, HR.out, hbr.setCell (Nat.le_refl _) _⟩
      case measure => simp [intOf]; omega
    · obtain rfl : k = n := by omega
      go_wp2
      go_ret
      exact ⟨rfl, hown, hbr⟩
end Go.Proofs.Qxb6600942a
