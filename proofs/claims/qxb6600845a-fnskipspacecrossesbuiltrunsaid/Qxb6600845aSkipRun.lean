import Derived.Test.Qxb6600845aSkipSpec
namespace Go.Proofs.Qxb6600845a
open Go.RowKit
set_option linter.unusedVariables false

/-- spaceOfKind: one of the four. -/
theorem kind_any (k : Int) (w : World) (hk : 0 ≤ k ∧ k ≤ 255) :
    Calls Try.prog 16 #[.int .u8 k] w fun e w' => ∃ c : Int, e = .returned (.int .u8 c) ∧ Hid (isSp c = true) ∧ w = w' := by
  rcases (show k % 4 = 0 ∨ k % 4 = 1 ∨ k % 4 = 2 ∨ k % 4 = 3 from by omega) with h | h | h | h
  all_goals
    go_enter Try.func16, Try.ntmps16
    go_wp2
    go_ret
    exact ⟨_, rfl, (show _ = _ by decide), rfl⟩

theorem zzb15_yes (a b c : Option Addr) (n cn m cm r cr : Nat) (w : World) (hn : n + m + r ≤ 1048576) :
    Calls Try.prog 15 #[.slice a n cn, .slice b m cm, .slice c r cr] w fun e w' => e = .returned (.bool true) ∧ w = w' := by
  go_enter Try.func15, Try.ntmps15
  go_wp2
  go_ret
  exact ⟨rfl, rfl⟩
theorem zzb15_no (a b c : Option Addr) (n cn m cm r cr : Nat) (w : World) (hn : 1048576 < n + m + r) (h1 : n ≤ maxLen) (h2 : m ≤ maxLen) (h3 : r ≤ maxLen) :
    Calls Try.prog 15 #[.slice a n cn, .slice b m cm, .slice c r cr] w fun e w' => e = .returned (.bool false) ∧ w = w' := by
  unfold maxLen at h1 h2 h3
  rcases (show 1048576 < n ∨ (n ≤ 1048576 ∧ 1048576 < m) ∨ (n ≤ 1048576 ∧ m ≤ 1048576 ∧ 1048576 < n + m) ∨ (n + m ≤ 1048576 ∧ 1048576 < r) ∨ (n + m ≤ 1048576 ∧ r ≤ 1048576) from by omega) with h | h | h | h | h
  all_goals
    go_enter Try.func15, Try.ntmps15
    go_wp2
    go_ret
    exact ⟨rfl, rfl⟩
theorem run_big (a b c : Option Addr) (n cn m cm r cr : Nat) (w : World) (hn : 1048576 < n + m + r) (h1 : n ≤ maxLen) (h2 : m ≤ maxLen) (h3 : r ≤ maxLen) :
    Calls Try.prog 6 #[.slice a n cn, .slice b m cm, .slice c r cr] w fun e w' => e = .returned (.bool true) ∧ Below w.heap.size w w' := by
  go_enter Try.func6, Try.ntmps6
  go_wp2_with (go_at_call 15; refine (zzb15_no _ _ _ _ _ _ _ _ _ _ hn h1 h2 h3).mono ?_; rintro e w' ⟨rfl, rfl⟩)
  go_ret
  exact ⟨rfl, Below.refl _ _⟩
theorem run_mid (a b c : Option Addr) (n cn m cm r cr : Nat) (w : World) (hn : n + m + r ≤ 1048576) (h : 262144 < n ∨ (n ≤ 262144 ∧ 262144 < m) ∨ (n ≤ 262144 ∧ m ≤ 262144 ∧ 262144 < r)) :
    Calls Try.prog 6 #[.slice a n cn, .slice b m cm, .slice c r cr] w fun e w' => e = .returned (.bool true) ∧ Below w.heap.size w w' := by
  rcases h with h | h | h
  all_goals
    go_enter Try.func6, Try.ntmps6
    go_wp2_with (go_at_call 15; refine (zzb15_yes _ _ _ _ _ _ _ _ _ _ hn).mono ?_; rintro e w' ⟨rfl, rfl⟩)
    go_ret
    exact ⟨rfl, Below.refl _ _⟩
/-- The rest begins with a whitespace byte: true. -/
theorem run_sp (a b : Option Addr) (x : Addr) (n cn m cm r cr : Nat) (z : Int) (w : World) (hn : n ≤ 262144) (hm : m ≤ 262144) (hr : r ≤ 262144) (hr0 : 0 < r) (hc : w.cell? x = some (.int .u8 z)) (hz : isSp z = true) :
    Calls Try.prog 6 #[.slice a n cn, .slice b m cm, .slice (some x) r cr] w fun e w' => e = .returned (.bool true) ∧ Below w.heap.size w w' := by
  have i0 : (0 : Int) < r := by omega
  go_enter Try.func6, Try.ntmps6
  go_wp2_with (first
    | (go_at_call 15; refine (zzb15_yes _ _ _ _ _ _ _ _ _ _ (by omega)).mono ?_; rintro e w' ⟨rfl, rfl⟩)
    | (go_at_call 14; refine (space_any _ _).mono ?_; rintro e w' ⟨rfl, rfl⟩))
  go_ret
  exact ⟨rfl, Below.refl _ _⟩
end Go.Proofs.Qxb6600845a
