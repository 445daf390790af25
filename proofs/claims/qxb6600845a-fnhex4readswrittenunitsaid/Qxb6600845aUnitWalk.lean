import Derived.Test.Qxb6600845aZzHex4
import Derived.Test.Qxb6600845aCopied
namespace Go.Proofs.Qxb6600845a
open Go.RowKit
open HexPlain
set_option linter.unusedVariables false

theorem hexv_lowI (k : Nat) (h : k < 16) : hexv (lowI k) = k := hexv_hit _ k h (.inl rfl)
theorem hexv_upI (k : Nat) (h : k < 16) : hexv (upI k) = k := hexv_hit _ k h (.inr rfl)
theorem lowI_bd (k : Nat) (h : k < 16) : 0 ≤ lowI k ∧ lowI k ≤ 255 := by unfold lowI; split <;> omega
theorem upI_bd (k : Nat) (h : k < 16) : 0 ≤ upI k ∧ upI k ≤ 255 := by unfold upI; split <;> omega
theorem and15 (n : Int) (h0 : 0 ≤ n) (h1 : n < 65536) : bits .and .i64 n 15 = n % 16 :=
  bits_mask .i64 16 (by decide) (fun m a b => by rw [IntKind.wrap_i64]; omega) 4 (by decide) n h0 h1

/-- hexDigitChar: a digit of that value. -/
theorem hexChar_any (n : Nat) (u : Bool) (w : World) (hn : n < 16) :
    Calls Try.prog 11 #[.int .i64 n, .bool u] w fun e w' => ∃ c : Int, e = .returned (.int .u8 c) ∧ hexv c = n ∧ (0 ≤ c ∧ c ≤ 255) ∧ w = w' := by
  have ha := and15 n (by omega) (by omega)
  have hm : (n : Int) % 16 = n := by omega
  rw [hm] at ha
  have hL := low_at n hn
  have hU := up_at n hn
  have HL := hexv_lowI n hn
  have HU := hexv_upI n hn
  have HLb : Hid (0 ≤ lowI n ∧ lowI n ≤ 255) := lowI_bd n hn
  have HUb : Hid (0 ≤ upI n ∧ upI n ≤ 255) := upI_bd n hn
  have HL' : Hid (hexv (lowI n) = n) := HL
  have HU' : Hid (hexv (upI n) = n) := HU
  clear HL HU hm
  cases u
  · go_enter Try.func11, Try.ntmps11
    go_wp2
    go_ret
    exact ⟨_, rfl, HL'.out, HLb.out, rfl⟩
  · go_enter Try.func11, Try.ntmps11
    go_wp2
    go_ret
    exact ⟨_, rfl, HU'.out, HUb.out, rfl⟩

theorem zzb10_yes (a b : Option Addr) (n cap m cbp : Nat) (v u : Int) (w : World) (hn : n + m ≤ 1048576) :
    Calls Try.prog 10 #[.slice a n cap, .int .u16 v, .int .u8 u, .slice b m cbp] w fun e w' => e = .returned (.bool true) ∧ w = w' := by
  go_enter Try.func10, Try.ntmps10
  go_wp2
  go_ret
  exact ⟨rfl, rfl⟩
theorem zzb10_no (a b : Option Addr) (n cap m cbp : Nat) (v u : Int) (w : World) (hn : 1048576 < n + m) (h1 : n ≤ maxLen) (h2 : m ≤ maxLen) :
    Calls Try.prog 10 #[.slice a n cap, .int .u16 v, .int .u8 u, .slice b m cbp] w fun e w' => e = .returned (.bool false) ∧ w = w' := by
  unfold maxLen at h1 h2
  rcases (show 1048576 < n ∨ (n ≤ 1048576 ∧ 1048576 < m) ∨ (n ≤ 1048576 ∧ m ≤ 1048576) from by omega) with h | h | h
  all_goals
    go_enter Try.func10, Try.ntmps10
    go_wp2
    go_ret
    exact ⟨rfl, rfl⟩
theorem unit_big (a b : Option Addr) (n cap m cbp : Nat) (v u : Int) (w : World) (hn : 1048576 < n + m) (h1 : n ≤ maxLen) (h2 : m ≤ maxLen) :
    Calls Try.prog 4 #[.slice a n cap, .int .u16 v, .int .u8 u, .slice b m cbp] w fun e w' => e = .returned (.bool true) ∧ Below w.heap.size w w' := by
  go_enter Try.func4, Try.ntmps4
  go_wp2_with (go_at_call 10; refine (zzb10_no _ _ _ _ _ _ _ _ _ hn h1 h2).mono ?_; rintro e w' ⟨rfl, rfl⟩)
  go_ret
  exact ⟨rfl, Below.refl _ _⟩
theorem unit_mid (a b : Option Addr) (n cap m cbp : Nat) (v u : Int) (w : World) (hn : n + m ≤ 1048576) (h : 524288 < n ∨ (n ≤ 524288 ∧ 524288 < m)) :
    Calls Try.prog 4 #[.slice a n cap, .int .u16 v, .int .u8 u, .slice b m cbp] w fun e w' => e = .returned (.bool true) ∧ Below w.heap.size w w' := by
  rcases h with h | h
  all_goals
    go_enter Try.func4, Try.ntmps4
    go_wp2_with (go_at_call 10; refine (zzb10_yes _ _ _ _ _ _ _ _ _ hn).mono ?_; rintro e w' ⟨rfl, rfl⟩)
    go_ret
    exact ⟨rfl, Below.refl _ _⟩
end Go.Proofs.Qxb6600845a
