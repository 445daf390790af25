import Derived.Test.Qxb6602852aPlain
namespace Go.Proofs.Qxb6602852a
open Go.RowKit
set_option linter.unusedVariables false

set_option maxRecDepth 100000 in
set_option maxHeartbeats 2000000 in
/-- The bound on lengths answers one bool. -/
theorem bytes_any (b0 b3 b8 : Bool) (s1 s2 s4 s6 s7 : ByteArray) (a : Option Addr) (n cap : Nat) (ss : List ByteArray) (w : World) (hS : Strs w a n cap ss) (hn : n ≤ maxLen)
    (z1 : s1.size ≤ maxLen) (z2 : s2.size ≤ maxLen) (z4 : s4.size ≤ maxLen) (z6 : s6.size ≤ maxLen) (z7 : s7.size ≤ maxLen) :
    Calls Try.prog 6 #[.bool b0, .string s1, .string s2, .bool b3, .string s4, .slice a n cap, .string s6, .string s7, .bool b8] w fun e w' => (e = .returned (.bool false) ∨ (e = .returned (.bool true) ∧ slen ss ≤ 1048576)) ∧ w = w' := by
  have HS : Hid (Strs w a n cap ss) := hS
  unfold maxLen at hn z1 z2 z4 z6 z7
  clear hS
  by_cases h1 : 1048576 < s1.size
  · go_enter Try.func6, Try.ntmps6
    go_wp2
    go_ret
    exact ⟨.inl rfl, rfl⟩
  by_cases h2 : 1048576 < s2.size
  · go_enter Try.func6, Try.ntmps6
    go_wp2
    go_ret
    exact ⟨.inl rfl, rfl⟩
  by_cases h3 : 1048576 < s1.size + s2.size
  · go_enter Try.func6, Try.ntmps6
    go_wp2
    go_ret
    exact ⟨.inl rfl, rfl⟩
  by_cases h4 : 1048576 < s4.size
  · go_enter Try.func6, Try.ntmps6
    go_wp2
    go_ret
    exact ⟨.inl rfl, rfl⟩
  by_cases h5 : 1048576 < s1.size + s2.size + s4.size
  · go_enter Try.func6, Try.ntmps6
    go_wp2
    go_ret
    exact ⟨.inl rfl, rfl⟩
  by_cases h6 : 1048576 < n
  · go_enter Try.func6, Try.ntmps6
    go_wp2
    go_ret
    exact ⟨.inl rfl, rfl⟩
  by_cases h7 : 1048576 < s1.size + s2.size + s4.size + n
  · go_enter Try.func6, Try.ntmps6
    go_wp2
    go_ret
    exact ⟨.inl rfl, rfl⟩
  go_enter Try.func6, Try.ntmps6
  go_wp2
  go_loop [19, 20] (fun t i => ∃ (k T : Nat), k ≤ n ∧ i = .int .i64 k ∧ t = .int .i64 T ∧ T ≤ 1048576 ∧ Hid (slen (ss.take k) ≤ T)) (fun _ i => n - (intOf i).toNat)
  case atStart => exact ⟨0, s1.size + s2.size + s4.size + n, by omega, rfl, by go_num, by omega, Nat.zero_le _⟩
  case round =>
    obtain ⟨k, T, hk, rfl, rfl, hT, HSL⟩ := hrel
    by_cases hlt : k < n
    · obtain ⟨yb, yo, rfl, hc, _⟩ := HS.out.at hlt
      have hs := slen_take_succ ss k (by rw [HS.out.1]; exact hlt)
      have HS2 : Hid (slen (ss.take (k + 1)) ≤ T + (nm ss k).size) := by have := HSL.out; show _ ≤ _; omega
      clear hs
      generalize nm ss k = s at hc HS2
      rcases (show 1048576 < s.size ∨ (s.size ≤ 1048576 ∧ 1048576 < T + s.size) ∨ (T + s.size ≤ 1048576) from by omega) with h | h | h
      · go_wp2
        go_ret
        exact ⟨.inl rfl, rfl⟩
      · go_wp2
        go_ret
        exact ⟨.inl rfl, rfl⟩
      · go_wp2
        go_round
        case rel => exact ⟨k + 1, T + s.size, by omega, by go_num, by go_num, by omega, HS2⟩
        case measure => simp [intOf]; omega
    · obtain rfl : k = n := by omega
      by_cases e1 : 1048576 < s6.size
      · go_wp2
        go_ret
        exact ⟨.inl rfl, rfl⟩
      by_cases e2 : 1048576 < T + s6.size
      · go_wp2
        go_ret
        exact ⟨.inl rfl, rfl⟩
      by_cases e3 : 1048576 < s7.size
      · go_wp2
        go_ret
        exact ⟨.inl rfl, rfl⟩
      by_cases e4 : 1048576 < T + s6.size + s7.size
      · go_wp2
        go_ret
        exact ⟨.inl rfl, rfl⟩
      have HSA : Hid (slen ss ≤ 1048576) := by
        have h1 := HSL.out
        rw [List.take_of_length_le (by rw [HS.out.1]; exact Nat.le_refl _)] at h1
        exact Nat.le_trans h1 hT
      go_wp2
      go_ret
      first | exact ⟨.inr ⟨rfl, HSA.out⟩, rfl⟩ | exact ⟨HSA.out, rfl⟩ | exact ⟨.inr HSA.out, rfl⟩

/-- ZZMakeURI. -/
theorem make_any (s1 s2 s4 : ByteArray) (b : Bool) (u : Option Addr) (w : World) :
    Calls Try.prog 8 #[.string s1, .string s2, .bool b, .string s4, .pointer u] w fun e w' => e = .returned (.pointer (some ⟨w.heap.size, 0, none⟩)) ∧ w' = w.alloc (.cells #[.string s1, .string s2, .bool b, .string s4, .pointer u] 40) := by
  go_enter Try.func8, Try.ntmps8
  go_wp2
  go_ret
  exact ⟨rfl, rfl⟩
end Go.Proofs.Qxb6602852a
