import Derived.Test.Qxb6600942aNames
namespace Go.Proofs.Qxb6600942a
open Go.RowKit
set_option linter.unusedVariables false

set_option maxHeartbeats 400000 in
theorem bytes7_any (a : Option Addr) (n cap : Nat) (ss : List ByteArray) (w : World) (hS : Strs w a n cap ss) (hn : n ≤ maxLen) :
    Calls Try.prog 7 #[.slice a n cap] w fun e w' => (e = .returned (.bool false) ∨ (e = .returned (.bool true) ∧ n + slen ss ≤ 1048576)) ∧ w = w' := by
  have HS : Hid (Strs w a n cap ss) := hS
  unfold maxLen at hn
  clear hS
  by_cases hbig : 1048576 < n
  · go_enter Try.func7, Try.ntmps7
    go_wp2
    go_ret
    exact ⟨.inl rfl, rfl⟩
  go_enter Try.func7, Try.ntmps7
  go_wp2
  go_loop [3, 4] (fun t i => ∃ k : Nat, k ≤ n ∧ i = .int .i64 k ∧ t = .int .i64 (n + slen (ss.take k) : Nat) ∧ n + slen (ss.take k) ≤ 1048576) (fun _ i => n - (intOf i).toNat)
  case atStart => exact ⟨0, by omega, rfl, by simp [slen], by simp [slen]; omega⟩
  case round =>
    obtain ⟨k, hk, rfl, rfl, hb⟩ := hrel
    by_cases hlt : k < n
    · obtain ⟨yb, yo, rfl, hc, _⟩ := HS.out.at hlt
      have hs := slen_take_succ ss k (by rw [HS.out.1]; exact hlt)
      obtain ⟨s, hsn⟩ : ∃ s, s = nm ss k := ⟨_, rfl⟩
      rw [← hsn] at hc hs
      have HSS : Hid (slen (ss.take (k + 1)) = slen (ss.take k) + s.size) := hs
      clear hsn hs
      rcases (show 1048576 < s.size ∨ (s.size ≤ 1048576 ∧ 1048576 < n + slen (ss.take k) + s.size) ∨ (n + slen (ss.take k) + s.size ≤ 1048576) from by omega) with h | h | h
      · go_wp2
        go_ret
        exact ⟨.inl rfl, rfl⟩
      · go_wp2
        go_ret
        exact ⟨.inl rfl, rfl⟩
      · go_wp2
        go_round
        case rel => exact ⟨k + 1, by omega, by go_num, by rw [HSS.out]; go_num, by rw [HSS.out]; omega⟩
        case measure => simp [intOf]; omega
    · obtain rfl : k = n := by omega
      have e : ss.take k = ss := List.take_of_length_le (by rw [HS.out.1]; omega)
      rw [e] at hb ⊢
      clear e
      go_wp2
      go_ret
      first | exact ⟨.inr ⟨rfl, hb⟩, rfl⟩ | exact ⟨.inr rfl, rfl⟩

set_option maxHeartbeats 400000 in
theorem bytes13_any (a : Option Addr) (n cap : Nat) (ss : List ByteArray) (x : ByteArray) (w : World) (hS : Strs w a n cap ss) (hn : n ≤ maxLen) (hx : x.size ≤ maxLen) :
    Calls Try.prog 13 #[.slice a n cap, .string x] w fun e w' => (e = .returned (.bool false) ∨ (e = .returned (.bool true) ∧ n + slen ss + x.size ≤ 1048576)) ∧ w = w' := by
  have HS : Hid (Strs w a n cap ss) := hS
  unfold maxLen at hn
  clear hS
  by_cases hbig : 1048576 < n
  · go_enter Try.func13, Try.ntmps13
    go_wp2
    go_ret
    exact ⟨.inl rfl, rfl⟩
  go_enter Try.func13, Try.ntmps13
  go_wp2
  go_loop [5, 6] (fun t i => ∃ k : Nat, k ≤ n ∧ i = .int .i64 k ∧ t = .int .i64 (n + slen (ss.take k) : Nat) ∧ n + slen (ss.take k) ≤ 1048576) (fun _ i => n - (intOf i).toNat)
  case atStart => exact ⟨0, by omega, rfl, by simp [slen], by simp [slen]; omega⟩
  case round =>
    obtain ⟨k, hk, rfl, rfl, hb⟩ := hrel
    by_cases hlt : k < n
    · obtain ⟨yb, yo, rfl, hc, _⟩ := HS.out.at hlt
      have hs := slen_take_succ ss k (by rw [HS.out.1]; exact hlt)
      obtain ⟨s, hsn⟩ : ∃ s, s = nm ss k := ⟨_, rfl⟩
      rw [← hsn] at hc hs
      have HSS : Hid (slen (ss.take (k + 1)) = slen (ss.take k) + s.size) := hs
      clear hsn hs
      rcases (show 1048576 < s.size ∨ (s.size ≤ 1048576 ∧ 1048576 < n + slen (ss.take k) + s.size) ∨ (n + slen (ss.take k) + s.size ≤ 1048576) from by omega) with h | h | h
      · go_wp2
        go_ret
        exact ⟨.inl rfl, rfl⟩
      · go_wp2
        go_ret
        exact ⟨.inl rfl, rfl⟩
      · go_wp2
        go_round
        case rel => exact ⟨k + 1, by omega, by go_num, by rw [HSS.out]; go_num, by rw [HSS.out]; omega⟩
        case measure => simp [intOf]; omega
    · obtain rfl : k = n := by omega
      have e : ss.take k = ss := List.take_of_length_le (by rw [HS.out.1]; omega)
      rw [e] at hb ⊢
      clear e
      unfold maxLen at hx
      rcases (show 1048576 < x.size ∨ (x.size ≤ 1048576 ∧ 1048576 < k + slen ss + x.size) ∨ (k + slen ss + x.size ≤ 1048576) from by omega) with h | h | h
      · go_wp2
        go_ret
        exact ⟨.inl rfl, rfl⟩
      · go_wp2
        go_ret
        exact ⟨.inl rfl, rfl⟩
      · go_wp2
        go_ret
        first | exact ⟨.inr ⟨rfl, h⟩, rfl⟩ | exact ⟨.inr rfl, rfl⟩
end Go.Proofs.Qxb6600942a
