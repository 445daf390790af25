import Derived.Test.Qxb6600942aNames
namespace Go.Proofs.Qxb6600942a
open Go.RowKit
set_option linter.unusedVariables false

set_option maxHeartbeats 400000 in
/-- textsBytes. -/
theorem texts_any (a : Option Addr) (n cap : Nat) (ss : List ByteArray) (w : World) (hS : Strs w a n cap ss) (hn : n + slen ss ≤ 1048576) :
    Calls Try.prog 8 #[.slice a n cap] w fun e w' => e = .returned (.int .i64 (16 * n + slen ss : Nat)) ∧ w = w' := by
  have HS : Hid (Strs w a n cap ss) := hS
  clear hS
  go_enter Try.func8, Try.ntmps8
  go_wp2
  go_loop [3, 4] (fun t i => ∃ k : Nat, k ≤ n ∧ i = .int .i64 k ∧ t = .int .i64 (16 * n + slen (ss.take k) : Nat)) (fun _ i => n - (intOf i).toNat)
  case atStart => exact ⟨0, by omega, rfl, by simp [slen]⟩
  case round =>
    obtain ⟨k, hk, rfl, rfl⟩ := hrel
    have hl := slen_take_le ss k
    by_cases hlt : k < n
    · obtain ⟨yb, yo, rfl, hc, _⟩ := HS.out.at hlt
      have hs := slen_take_succ ss k (by rw [HS.out.1]; exact hlt)
      have hl2 := slen_take_le ss (k + 1)
      obtain ⟨s, hsn⟩ : ∃ s, s = nm ss k := ⟨_, rfl⟩
      rw [← hsn] at hc hs
      have HSS : Hid (slen (ss.take (k + 1)) = slen (ss.take k) + s.size) := hs
      have hss : slen (ss.take k) + s.size ≤ slen ss := by omega
      clear hsn hs hl2
      go_wp2
      go_round
      case rel => exact ⟨k + 1, by omega, by go_num, by rw [HSS.out]; go_num⟩
      case measure => simp [intOf]; omega
    · obtain rfl : k = n := by omega
      go_wp2
      go_ret
      have e : ss.take k = ss := List.take_of_length_le (by rw [HS.out.1]; omega)
      exact ⟨by rw [e]; rfl, rfl⟩
end Go.Proofs.Qxb6600942a
