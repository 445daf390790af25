import Derived.Test.Qxb6600942aFil
namespace Go.Proofs.Qxb6600942a
open Go.RowKit
set_option linter.unusedVariables false

set_option maxRecDepth 100000 in
set_option maxHeartbeats 1000000 in
theorem bytes14_any (a : Option Addr) (n cap : Nat) (fs : List Fil) (w : World) (hS : Fils w a n cap fs) (hn : n ≤ maxLen) :
    Calls Try.prog 14 #[.slice a n cap] w fun e w' => (e = .returned (.bool false) ∨ (e = .returned (.bool true) ∧ n + flen fs ≤ 1048576)) ∧ w = w' := by
  have HS : Hid (Fils w a n cap fs) := hS
  unfold maxLen at hn
  clear hS
  by_cases hbig : 1048576 < n
  · go_enter Try.func14, Try.ntmps14
    go_wp2
    go_ret
    exact ⟨.inl rfl, rfl⟩
  go_enter Try.func14, Try.ntmps14
  go_wp2
  go_loop [3, 4] (fun t i => ∃ k : Nat, k ≤ n ∧ i = .int .i64 k ∧ t = .int .i64 (n + flen (fs.take k) : Nat) ∧ n + flen (fs.take k) ≤ 1048576) (fun _ i => n - (intOf i).toNat)
  case atStart => exact ⟨0, by omega, rfl, by simp [flen], by simp [flen]; omega⟩
  case round =>
    obtain ⟨k, hk, rfl, rfl, hb⟩ := hrel
    by_cases hlt : k < n
    · obtain ⟨yb, yo, rfl, ⟨c0, _, c2, _⟩, _⟩ := HS.out.at hlt
      have hs := flen_take_succ fs k (by rw [HS.out.1]; exact hlt)
      obtain ⟨s1, h1⟩ : ∃ s, s = (fl fs k).b := ⟨_, rfl⟩
      obtain ⟨s2, h2⟩ : ∃ s, s = (fl fs k).p := ⟨_, rfl⟩
      rw [← h1, ← h2] at hs
      rw [← h1] at c0
      rw [← h2] at c2
      have HSS : Hid (flen (fs.take (k + 1)) = flen (fs.take k) + s1.size + s2.size) := hs
      clear h1 h2 hs
      rcases (show 1048576 < s1.size ∨ (s1.size ≤ 1048576 ∧ 1048576 < n + flen (fs.take k) + s1.size) ∨ (n + flen (fs.take k) + s1.size ≤ 1048576 ∧ 1048576 < s2.size) ∨ (n + flen (fs.take k) + s1.size ≤ 1048576 ∧ s2.size ≤ 1048576 ∧ 1048576 < n + flen (fs.take k) + s1.size + s2.size) ∨ (n + flen (fs.take k) + s1.size + s2.size ≤ 1048576) from by omega) with h | h | h | h | h
      · go_wp2
        go_ret
        exact ⟨.inl rfl, rfl⟩
      · go_wp2
        go_ret
        exact ⟨.inl rfl, rfl⟩
      · go_wp2
        go_ret
        exact ⟨.inl rfl, rfl⟩
      · go_wp2
        go_ret
        exact ⟨.inl rfl, rfl⟩
      · go_wp2
        go_round
        case rel => exact ⟨k + 1, by omega, by go_num, by rw [HSS.out]; go_num, by rw [HSS.out]; omega⟩
        case measure => simp [intOf]; omega
    · obtain rfl : k = n := by omega
      have e : fs.take k = fs := List.take_of_length_le (by rw [HS.out.1]; omega)
      rw [e] at hb ⊢
      clear e
      go_wp2
      go_ret
      first | exact ⟨.inr ⟨rfl, hb⟩, rfl⟩ | exact ⟨.inr rfl, rfl⟩

set_option maxRecDepth 100000 in
set_option maxHeartbeats 1000000 in
theorem fbytes_any (a : Option Addr) (n cap : Nat) (fs : List Fil) (w : World) (hS : Fils w a n cap fs) (hn : n + flen fs ≤ 1048576) :
    Calls Try.prog 15 #[.slice a n cap] w fun e w' => (∃ T : Int, e = .returned (.int .i64 T)) ∧ ∃ m, w' = w.drewN m := by
  have HS : Hid (Fils w a n cap fs) := hS
  clear hS
  go_enter Try.func15, Try.ntmps15
  go_wp2
  go_loopw [3, 4] (fun t i wr => ∃ k m : Nat, k ≤ n ∧ i = .int .i64 k ∧ t = .int .i64 (48 * n + flen (fs.take k) : Nat) ∧ wr = w.drewN m) (fun _ i _ => n - (intOf i).toNat)
  case atStart => exact ⟨0, 0, by omega, rfl, by simp [flen], rfl⟩
  case round =>
    obtain ⟨k, m, hk, rfl, rfl, rfl⟩ := hrel
    have hl := flen_take_le fs k
    by_cases hlt : k < n
    · obtain ⟨yb, yo, rfl, ⟨c0, _, c2, _⟩, _⟩ := HS.out.at hlt
      have hs := flen_take_succ fs k (by rw [HS.out.1]; exact hlt)
      have hl2 := flen_take_le fs (k + 1)
      obtain ⟨s1, h1⟩ : ∃ s, s = (fl fs k).b := ⟨_, rfl⟩
      obtain ⟨s2, h2⟩ : ∃ s, s = (fl fs k).p := ⟨_, rfl⟩
      rw [← h1, ← h2] at hs
      rw [← h1] at c0
      rw [← h2] at c2
      have HSS : Hid (flen (fs.take (k + 1)) = flen (fs.take k) + s1.size + s2.size) := hs
      have hss : flen (fs.take k) + s1.size + s2.size ≤ flen fs := by omega
      have i1 : (k : Int) < n := by omega
      clear h1 h2 hs hl2
      go_wp2
      go_quiet (fail)
      go_wp2
      go_roundw
      case rel => exact ⟨k + 1, _, by omega, by go_num, by rw [HSS.out]; go_num, rfl⟩
      case measure => simp [intOf]; omega
    · go_wp2
      go_ret
      exact ⟨⟨_, rfl⟩, _, rfl⟩
end Go.Proofs.Qxb6600942a
