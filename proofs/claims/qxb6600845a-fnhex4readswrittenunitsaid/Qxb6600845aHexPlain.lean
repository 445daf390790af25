/-
  PLAIN MATHEMATICS: the value of a hexadecimal digit; nothing of the program.
-/
import Derived.WalkKit
namespace Go.Proofs.Qxb6600845a.HexPlain

/-- The value of the byte c as a hexadecimal digit of either case, or -1. -/
def hexv (c : Int) : Int :=
  if 48 ≤ c ∧ c ≤ 57 then c - 48 else if 97 ≤ c ∧ c ≤ 102 then c - 87 else if 65 ≤ c ∧ c ≤ 70 then c - 55 else -1

theorem hexv_bd (c : Int) : -1 ≤ hexv c ∧ hexv c ≤ 15 := by unfold hexv; split <;> (try split) <;> (try split) <;> omega

def lowers : ByteArray := ⟨#[48, 49, 50, 51, 52, 53, 54, 55, 56, 57, 97, 98, 99, 100, 101, 102]⟩
def uppers : ByteArray := ⟨#[48, 49, 50, 51, 52, 53, 54, 55, 56, 57, 65, 66, 67, 68, 69, 70]⟩

/-- The digit at place k of the two alphabets. -/
def lowI (k : Nat) : Int := if k < 10 then 48 + k else 87 + k
def upI (k : Nat) : Int := if k < 10 then 48 + k else 55 + k

theorem hexv_hit (c : Int) (k : Nat) (hk : k < 16) (h : lowI k = c ∨ upI k = c) : hexv c = k := by
  unfold lowI upI at h; unfold hexv
  split at h <;> (split <;> (try split) <;> (try split) <;> omega)

theorem hexv_miss (c : Int) (h : ∀ k : Nat, k < 16 → lowI k ≠ c ∧ upI k ≠ c) : hexv c = -1 := by
  unfold hexv
  split
  · have := (h (c - 48).toNat (by omega)).1; unfold lowI at this; split at this <;> omega
  · split
    · have := (h (c - 87).toNat (by omega)).1; unfold lowI at this; split at this <;> omega
    · split
      · have := (h (c - 55).toNat (by omega)).2; unfold upI at this; split at this <;> omega
      · rfl

theorem ret_int {k : IntKind} {a b : Int} (h : a = b) : Ending.returned (.int k a) = .returned (.int k b) := by rw [h]

/-- The value of the first k of the bytes c 0, c 1, .. as hexadecimal digits. -/
def acc (c : Nat → Int) : Nat → Int
  | 0 => 0
  | k + 1 => acc c k * 16 + hexv (c k)
theorem acc_bd (c : Nat → Int) (k : Nat) (h : ∀ j, j < k → 0 ≤ hexv (c j)) : 0 ≤ acc c k ∧ acc c k < 16 ^ k := by
  induction k with
  | zero => simp [acc]
  | succ k ih =>
    have h1 := ih fun j hj => h j (by omega)
    have h2 := h k (by omega)
    have h3 := (hexv_bd (c k)).2
    have e : (16 : Int) ^ (k + 1) = 16 ^ k * 16 := Int.pow_succ ..
    simp only [acc]; omega

theorem hexv_dec {c : Int} (h : 48 ≤ c ∧ c ≤ 57) : hexv c = c - 48 := by unfold hexv; rw [if_pos h]
theorem hexv_low {c : Int} (h : 97 ≤ c ∧ c ≤ 102) : hexv c = c - 87 := by unfold hexv; rw [if_neg (by omega), if_pos h]
theorem hexv_up {c : Int} (h : 65 ≤ c ∧ c ≤ 70) : hexv c = c - 55 := by unfold hexv; rw [if_neg (by omega), if_neg (by omega), if_pos h]
theorem hexv_no {c : Int} (h : c < 48 ∨ (57 < c ∧ c < 65) ∨ (70 < c ∧ c < 97) ∨ 102 < c) : hexv c = -1 := by unfold hexv; rw [if_neg (by omega), if_neg (by omega), if_neg (by omega)]
theorem or4 (r d : Int) (h0 : 0 ≤ r) (h1 : r < 4096) (h2 : 0 ≤ d) (h3 : d < 16) : bits .or .i32 (r * 16) d = r * 16 + d :=
  bits_join .i32 31 (by decide) wraps_i32 4 (r * 16) d (by omega) (by omega) (by omega) h2 h3 (by omega)
theorem step_r {c : Nat → Int} {k : Nat} {ck X : Int} (hC : ck = c k) (hr : 0 ≤ acc c k ∧ acc c k < 4096) (hX : X = hexv ck) (h0 : 0 ≤ hexv ck) :
    Value.int .i32 (bits .or .i32 (acc c k * 16) X) = Value.int .i32 (acc c (k + 1)) := by
  have := (hexv_bd ck).2
  rw [or4 _ _ hr.1 hr.2 (by omega) (by omega), hX, hC]; rfl
theorem step_m {c : Nat → Int} {k : Nat} {ck : Int} (hC : ck = c k) (h0 : 0 ≤ hexv ck) (hm : ∀ j : Nat, j < k → 0 ≤ hexv (c j)) : ∀ j : Nat, j < k + 1 → 0 ≤ hexv (c j) := by
  intro j hj
  by_cases e : j = k
  · rw [e, ← hC]; exact h0
  · exact hm j (by omega)
end Go.Proofs.Qxb6600845a.HexPlain
