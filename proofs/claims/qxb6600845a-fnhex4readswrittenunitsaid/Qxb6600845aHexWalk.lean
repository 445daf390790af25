import Derived.Test.Qxb6600845aRows
import Derived.Test.Qxb6600845aHexPlain
import Derived.WalkKit
import Derived.WalkSpells
import Derived.WalkLawsBesides
import Derived.Deep.QuietTactic
import Derived.BigQuiet
namespace Go.Proofs.Qxb6600845a
open Go.RowKit
open HexPlain

theorem low_at (k : Nat) (h : k < 16) : (((⟨#[48, 49, 50, 51, 52, 53, 54, 55, 56, 57, 97, 98, 99, 100, 101, 102]⟩ : ByteArray)[k]'h).toNat : Int) = lowI k := by
  have key : ∀ j : Fin 16, (((⟨#[48, 49, 50, 51, 52, 53, 54, 55, 56, 57, 97, 98, 99, 100, 101, 102]⟩ : ByteArray)[j.val]'j.isLt).toNat : Int) = lowI j.val := by decide
  exact key ⟨k, h⟩
theorem up_at (k : Nat) (h : k < 16) : (((⟨#[48, 49, 50, 51, 52, 53, 54, 55, 56, 57, 65, 66, 67, 68, 69, 70]⟩ : ByteArray)[k]'h).toNat : Int) = upI k := by
  have key : ∀ j : Fin 16, (((⟨#[48, 49, 50, 51, 52, 53, 54, 55, 56, 57, 65, 66, 67, 68, 69, 70]⟩ : ByteArray)[j.val]'j.isLt).toNat : Int) = upI j.val := by decide
  exact key ⟨k, h⟩

set_option maxHeartbeats 400000 in
theorem hexDigit_any (c : Int) (w : World) :
    Calls Try.prog 9 #[.int .u8 c] w fun e w' => e = .returned (.int .i64 (hexv c)) ∧ w = w' := by
  go_enter Try.func9, Try.ntmps9
  go_wp2
  go_loop [3] (fun i => ∃ k : Nat, k ≤ 16 ∧ i = .int .i64 k ∧ ∀ j : Nat, j < k → lowI j ≠ c ∧ upI j ≠ c) (fun i => 16 - (intOf i).toNat)
  case atStart => exact ⟨0, by omega, rfl, fun j h => by omega⟩
  case round =>
    obtain ⟨k, hk, rfl, hm⟩ := hrel
    have HM : Hid (∀ j : Nat, j < k → lowI j ≠ c ∧ upI j ≠ c) := hm
    clear hm
    by_cases hlt : k < 16
    · have hL := low_at k hlt
      have hU := up_at k hlt
      by_cases h1 : (lowI k == c) = true
      · have HH : Hid (hexv c = k) := hexv_hit c k hlt (.inl (by simpa using h1))
        go_wp2
        go_ret
        exact ⟨ret_int HH.out.symm, rfl⟩
      · have h1' : (lowI k == c) = false := by simpa using h1
        by_cases h2 : (upI k == c) = true
        · have HH : Hid (hexv c = k) := hexv_hit c k hlt (.inr (by simpa using h2))
          go_wp2
          go_ret
          exact ⟨ret_int HH.out.symm, rfl⟩
        · have h2' : (upI k == c) = false := by simpa using h2
          go_wp2
          go_round
          case rel =>
            refine ⟨k + 1, by omega, by go_num, fun j hj => ?_⟩
            by_cases e : j = k
            · subst e; exact ⟨by simpa using h1', by simpa using h2'⟩
            · exact HM.out j (by omega)
          case measure => simp [intOf]; omega
    · have : k = 16 := by omega
      subst this
      go_wp2
      go_ret
      exact ⟨ret_int (hexv_miss c HM.out).symm, rfl⟩
end Go.Proofs.Qxb6600845a
