import Derived.Test.Qxb6600845aZzHex4
import Derived.Test.Qxb6600845aCopied
namespace Go.Proofs.Qxb6600845a
open Go.RowKit
open HexPlain
set_option linter.unusedVariables false

theorem zzb7_yes (a : Option Addr) (n cap : Nat) (p : Int) (w : World) (hn : n ≤ 1048576) :
    Calls Try.prog 7 #[.slice a n cap, .int .i64 p] w fun e w' => e = .returned (.bool true) ∧ w = w' := by
  go_enter Try.func7, Try.ntmps7
  go_wp2
  go_ret
  exact ⟨rfl, rfl⟩
theorem zzb7_no (a : Option Addr) (n cap : Nat) (p : Int) (w : World) (hn : 1048576 < n) (hm : n ≤ maxLen) :
    Calls Try.prog 7 #[.slice a n cap, .int .i64 p] w fun e w' => e = .returned (.bool false) ∧ w = w' := by
  unfold maxLen at hm
  go_enter Try.func7, Try.ntmps7
  go_wp2
  go_ret
  exact ⟨rfl, rfl⟩

/-- Too long: true. -/
theorem spec_big (a : Option Addr) (n cap : Nat) (p : Int) (w : World) (hn : 1048576 < n) (hm : n ≤ maxLen) :
    Calls Try.prog 3 #[.slice a n cap, .int .i64 p] w fun e w' => e = .returned (.bool true) ∧ Below w.heap.size w w' := by
  go_enter Try.func3, Try.ntmps3
  go_wp2_with (go_at_call 7; refine (zzb7_no _ _ _ _ _ hn hm).mono ?_; rintro e w' ⟨rfl, rfl⟩)
  go_ret
  exact ⟨rfl, Below.refl _ _⟩
/-- The position is out of bounds: true. -/
theorem spec_pos (a : Option Addr) (n cap : Nat) (p : Int) (w : World) (hn : n ≤ 1048576) (hp : p < 0 ∨ 1048576 < p) :
    Calls Try.prog 3 #[.slice a n cap, .int .i64 p] w fun e w' => e = .returned (.bool true) ∧ Below w.heap.size w w' := by
  rcases hp with hp | hp
  all_goals
    go_enter Try.func3, Try.ntmps3
    go_wp2_with (go_at_call 7; refine (zzb7_yes _ _ _ _ _ hn).mono ?_; rintro e w' ⟨rfl, rfl⟩)
    go_ret
    exact ⟨rfl, Below.refl _ _⟩
/-- No data: true. -/
theorem spec_nil (p : Nat) (w : World) (hp : p ≤ 1048576) :
    Calls Try.prog 3 #[.slice none 0 0, .int .i64 p] w fun e w' => e = .returned (.bool true) ∧ Below w.heap.size w w' := by
  have hne := fun wx => run_neq_slice_nil_any (P := Try.prog) wx 22 5 none 0 0 0 0 Try.underlying22
  go_enter Try.func3, Try.ntmps3
  go_wp2_with (first
    | (go_at_call 7; refine (zzb7_yes _ _ _ _ _ (by omega)).mono ?_; rintro e w' ⟨rfl, rfl⟩)
    | (go_at_call 8; refine (zzhex4_short none 0 0 p _ (by omega) hp (by omega)).mono ?_; rintro e w' ⟨rfl, hb⟩))
  go_ret
  exact ⟨rfl, hb⟩

set_option maxHeartbeats 400000 in
/-- Fewer than four bytes are left: true. -/
theorem spec_short (x : Addr) (n cap p : Nat) (zs : List Int) (w : World) (hn : n ≤ 1048576) (hp : p ≤ 1048576) (h : n < p + 4) (hz : zs.length = n)
    (hc : ∀ j, j < zs.length → w.cell? (x.add j) = some (.int .u8 (zs.getD j 0))) :
    Calls Try.prog 3 #[.slice (some x) n cap, .int .i64 p] w fun e w' => e = .returned (.bool true) ∧ Below w.heap.size w w' := by
  have hne := fun wx => run_neq_slice_nil_any (P := Try.prog) wx 22 5 (some x) n cap 0 0 Try.underlying22
  have hmk := make_bytes n (by omega)
  obtain ⟨W2, hcp, hrow, hB⟩ := copied x n cap zs w hz hc
  clear hc hz hrow
  go_enter Try.func3, Try.ntmps3
  go_wp2_with (first
    | (go_at_call 7; refine (zzb7_yes _ _ _ _ _ (by omega)).mono ?_; rintro e w' ⟨rfl, rfl⟩)
    | (go_at_call 8; refine (zzhex4_short _ n n p _ (by omega) hp (by omega)).mono ?_; rintro e w' ⟨rfl, hb⟩))
  go_ret
  exact ⟨rfl, hB.trans (hb.mono hB.size)⟩

theorem acc4 (c : Nat → Int) : acc c 4 = hexv (c 0) * 4096 + hexv (c 1) * 256 + hexv (c 2) * 16 + hexv (c 3) := by simp only [acc]; omega
theorem neg_of {c : Nat → Int} (h : ∃ j, j < 4 ∧ hexv (c j) < 0) : hexv (c 0) < 0 ∨ (0 ≤ hexv (c 0) ∧ hexv (c 1) < 0) ∨ (0 ≤ hexv (c 0) ∧ 0 ≤ hexv (c 1) ∧ hexv (c 2) < 0) ∨ (0 ≤ hexv (c 0) ∧ 0 ≤ hexv (c 1) ∧ 0 ≤ hexv (c 2) ∧ hexv (c 3) < 0) := by
  obtain ⟨j, hj, h⟩ := h
  match j, hj with
  | 0, _ => omega
  | 1, _ => omega
  | 2, _ => omega
  | 3, _ => omega

set_option maxHeartbeats 1000000 in
/-- Four bytes are left: true. -/
theorem spec_long (x : Addr) (n cap p : Nat) (zs : List Int) (c : Nat → Int) (w : World) (hn : n ≤ 1048576) (hp : p ≤ 1048576) (h : p + 4 ≤ n) (hz : zs.length = n)
    (hc : ∀ j, j < zs.length → w.cell? (x.add j) = some (.int .u8 (zs.getD j 0))) (hcz : ∀ j, j < 4 → zs.getD (p + j) 0 = c j) (hb : ∀ j, 0 ≤ c j ∧ c j ≤ 255) :
    Calls Try.prog 3 #[.slice (some x) n cap, .int .i64 p] w fun e w' => e = .returned (.bool true) ∧ Below w.heap.size w w' := by
  have hne := fun wx => run_neq_slice_nil_any (P := Try.prog) wx 22 5 (some x) n cap 0 0 Try.underlying22
  have hmk := make_bytes n (by omega)
  obtain ⟨W2, hcp, hrow, hB⟩ := copied x n cap zs w hz hc
  have cells : ∀ j, j < 4 → W2.cell? ⟨w.heap.size, p + j, none⟩ = some (.int .u8 (c j)) := fun j hj => by rw [hrow.cell (p + j) (by omega), hcz j hj]
  have HC : Hid (∀ j, j < 4 → W2.cell? ⟨w.heap.size, 0 + p + j, none⟩ = some (.int .u8 (c j))) := fun j hj => by rw [Nat.zero_add]; exact cells j hj
  have HB : Hid (∀ j, 0 ≤ c j ∧ c j ≤ 255) := hb
  have hlt := hrow.lt
  have b0 := hexv_bd (c 0)
  have b1 := hexv_bd (c 1)
  have b2 := hexv_bd (c 2)
  have b3 := hexv_bd (c 3)
  have i1 : (p : Int) + 4 ≤ n := by omega
  clear hc hz hcz hb
  go_enter Try.func3, Try.ntmps3
  go_wp2_with (go_at_call 7; refine (zzb7_yes _ _ _ _ _ (by omega)).mono ?_; rintro e w' ⟨rfl, rfl⟩)
  refine (zzhex4_long w.heap.size 0 n n p c _ (by omega) (Nat.le_refl _) hp h hlt HC.out HB.out).mono ?_
  rintro e w' ⟨hres, hb⟩
  have q0 : w'.cell? ⟨w.heap.size, p, none⟩ = some (.int .u8 (c 0)) := by rw [hb.cell hlt]; exact cells 0 (by omega)
  have q1 : w'.cell? ⟨w.heap.size, p + 1, none⟩ = some (.int .u8 (c 1)) := by rw [hb.cell hlt]; exact cells 1 (by omega)
  have q2 : w'.cell? ⟨w.heap.size, p + 2, none⟩ = some (.int .u8 (c 2)) := by rw [hb.cell hlt]; exact cells 2 (by omega)
  have q3 : w'.cell? ⟨w.heap.size, p + 3, none⟩ = some (.int .u8 (c 3)) := by rw [hb.cell hlt]; exact cells 3 (by omega)
  have fin : Below w.heap.size w w' := hB.trans (hb.mono hB.size)
  clear HC HB cells hrow hcp hmk hne
  rcases hres with ⟨hall, rfl⟩ | ⟨hno, rfl⟩
  · have a0 := hall 0 (by omega)
    have a1 := hall 1 (by omega)
    have a2 := hall 2 (by omega)
    have a3 := hall 3 (by omega)
    have hacc := acc4 c
    have habd : 0 ≤ acc c 4 ∧ acc c 4 ≤ 65535 := by omega
    have heq : (acc c 4 == hexv (c 0) * 4096 + hexv (c 1) * 256 + hexv (c 2) * 16 + hexv (c 3)) = true := by rw [hacc]; simp
    clear hacc hall
    go_wp2_with (go_at_call 9; refine (hexDigit_any _ _).mono ?_; rintro e w'' ⟨rfl, rfl⟩)
    go_ret
    exact ⟨rfl, fin⟩
  · have hn4 := neg_of hno
    clear hno
    rcases hn4 with hd | hd | hd | hd
    all_goals
      go_wp2_with (go_at_call 9; refine (hexDigit_any _ _).mono ?_; rintro e w'' ⟨rfl, rfl⟩)
      go_ret
      exact ⟨rfl, fin⟩
end Go.Proofs.Qxb6600845a
