import Derived.Test.Qxb6600845aHexWalk
namespace Go.Proofs.Qxb6600845a
open Go.RowKit
open HexPlain
set_option linter.unusedVariables false

set_option maxHeartbeats 400000 in
/-- hex4 where fewer than four bytes are left. -/
theorem hex4_short (b : Nat) (a : Option Addr) (n cap p : Nat) (w : World) (hn : n ≤ 4194304) (hp : p ≤ 1048576) (h : n < p + 4)
    (h0 : w.cell? ⟨b, 0, none⟩ = some (.slice a n cap)) (h2 : w.cell? ⟨b, 2, none⟩ = some (.int .i64 p)) :
    Calls Try.prog 17 #[.pointer (some ⟨b, 0, none⟩)] w fun e w' => e = .returned (.tuple #[.int .i32 0, .bool false]) ∧ ∃ k, w' = w.drewN k := by
  go_enter Try.func17, Try.ntmps17
  go_wp2
  go_quiet (fail)
  go_wp2
  go_ret2
  exact ⟨rfl, _, rfl⟩

set_option maxHeartbeats 400000 in
/-- hex4 where four bytes are left. -/
theorem hex4_long (b db off : Nat) (n cap p : Nat) (c : Nat → Int) (w : World) (hn : n ≤ 4194304) (hcap : n ≤ cap) (hp : p ≤ 1048576) (h : p + 4 ≤ n)
    (h0 : w.cell? ⟨b, 0, none⟩ = some (.slice (some ⟨db, off, none⟩) n cap)) (h2 : w.cell? ⟨b, 2, none⟩ = some (.int .i64 p)) (hf : w.frozen? ⟨b, 2, none⟩ = false)
    (hc : ∀ j, j < 4 → w.cell? ⟨db, off + p + j, none⟩ = some (.int .u8 (c j))) (hb : ∀ j, 0 ≤ c j ∧ c j ≤ 255) :
    Calls Try.prog 17 #[.pointer (some ⟨b, 0, none⟩)] w fun e w' =>
      ((∀ j, j < 4 → 0 ≤ hexv (c j)) ∧ e = .returned (.tuple #[.int .i32 (acc c 4), .bool true]) ∧ ∃ k, w' = (w.drewN k).setCell ⟨b, 2, none⟩ (.int .i64 (p + 4))) ∨
      ((∃ j, j < 4 ∧ hexv (c j) < 0) ∧ e = .returned (.tuple #[.int .i32 0, .bool false]) ∧ ∃ k, w' = w.drewN k) := by
  have i1 : (p : Int) + 4 ≤ n := by omega
  have e4 : p + 4 - p = 4 := by omega
  go_enter Try.func17, Try.ntmps17
  go_wp2
  go_quiet (fail)
  go_wp2
  go_quiet (fail)
  go_wp2
  simp only [World.drewN_drewN]
  go_loop [4, 34] (fun r i => ∃ k : Nat, k ≤ 4 ∧ i = .int .i64 k ∧ r = .int .i32 (acc c k) ∧ ∀ j : Nat, j < k → 0 ≤ hexv (c j)) (fun _ i => 4 - (intOf i).toNat)
  case atStart => exact ⟨0, by omega, rfl, rfl, fun j h => by omega⟩
  case round =>
    obtain ⟨k, hk, rfl, rfl, hm⟩ := hrel
    have hab := acc_bd c k hm
    have HM : Hid (∀ j : Nat, j < k → 0 ≤ hexv (c j)) := hm
    clear hm
    by_cases hlt : k < 4
    · have hck := hc k hlt
      have hbk := hb k
      clear hc hb
      obtain ⟨ck, hck'⟩ : ∃ ck, ck = c k := ⟨_, rfl⟩
      rw [← hck'] at hck hbk
      have HC : Hid (ck = c k) := hck'
      clear hck'
      have hp16 : (16 : Int) ^ k ≤ 4096 := by
        match k, hlt with
        | 0, _ => decide
        | 1, _ => decide
        | 2, _ => decide
        | 3, _ => decide
      have hr : 0 ≤ acc c k ∧ acc c k < 4096 := by omega
      clear hp16 hab
      rcases (show (48 ≤ ck ∧ ck ≤ 57) ∨ (97 ≤ ck ∧ ck ≤ 102) ∨ (65 ≤ ck ∧ ck ≤ 70) ∨ (ck < 48 ∨ (57 < ck ∧ ck < 65) ∨ (70 < ck ∧ ck < 97) ∨ 102 < ck) from by omega) with hd | hd | hd | hd
      · have hv := hexv_dec hd
        have HV : Hid (hexv ck = ck - 48) := hv
        clear hv
        go_wp2
        go_round
        case rel => exact ⟨k + 1, by omega, by go_num, step_r HC.out hr (by rw [HV.out]) (by rw [HV.out]; omega), step_m HC.out (by rw [HV.out]; omega) HM.out⟩
        case measure => simp [intOf]; omega
      · have hv := hexv_low hd
        have HV : Hid (hexv ck = ck - 87) := hv
        clear hv
        go_wp2
        go_round
        case rel =>
          refine ⟨_, _, _, _, _, _, ?_, rfl, rfl, rfl, rfl, rfl, rfl⟩
          exact ⟨k + 1, by omega, by go_num, step_r HC.out hr (by rw [HV.out]; omega) (by rw [HV.out]; omega), step_m HC.out (by rw [HV.out]; omega) HM.out⟩
        case measure => simp [intOf]; omega
      · have hv := hexv_up hd
        have HV : Hid (hexv ck = ck - 55) := hv
        clear hv
        go_wp2
        go_round
        case rel =>
          refine ⟨_, _, _, _, _, _, ?_, rfl, rfl, rfl, rfl, rfl, rfl⟩
          exact ⟨k + 1, by omega, by go_num, step_r HC.out hr (by rw [HV.out]; omega) (by rw [HV.out]; omega), step_m HC.out (by rw [HV.out]; omega) HM.out⟩
        case measure => simp [intOf]; omega
      · have hv := hexv_no hd
        have HV : Hid (hexv ck = -1) := hv
        clear hv
        rcases hd with hd | hd | hd | hd
        all_goals
          go_wp2
          go_ret2
          exact .inr ⟨⟨k, hlt, by rw [← HC.out, HV.out]; decide⟩, rfl, _, rfl⟩
    · have : k = 4 := by omega
      subst this
      go_wp2
      go_ret2
      exact .inl ⟨HM.out, rfl, _, rfl⟩
end Go.Proofs.Qxb6600845a
