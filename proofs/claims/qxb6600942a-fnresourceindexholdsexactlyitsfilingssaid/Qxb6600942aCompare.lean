import Derived.Test.Qxb6600942aNames
import Derived.Test.Qxb6600942aOrder
namespace Go.Proofs.Qxb6600942a
open Go.RowKit
set_option linter.unusedVariables false

theorem leL_same (p u v : List UInt8) : leL (p ++ u) (p ++ v) = leL u v := by
  induction p with
  | nil => rfl
  | cons x r ih => simp only [List.cons_append, leL]; rw [ih]; simp
theorem leL_drop {a b : List UInt8} {i : Nat} (h : a.take i = b.take i) : leL a b = leL (a.drop i) (b.drop i) := by
  conv => lhs; rw [← List.take_append_drop i a, ← List.take_append_drop i b, h]
  exact leL_same _ _ _
theorem drop_at (s : ByteArray) (k : Nat) (h : k < s.size) : s.data.toList.drop k = s[k] :: s.data.toList.drop (k + 1) := by
  rw [List.drop_eq_getElem_cons (by simpa using h)]; rfl
theorem take_snoc (s : ByteArray) (k : Nat) (h : k < s.size) : s.data.toList.take (k + 1) = s.data.toList.take k ++ [s[k]] := by
  rw [List.take_succ_eq_append_getElem (by simpa using h)]; rfl
/-- The first k bytes are the same. -/
def Pre (a b : ByteArray) (k : Nat) : Prop := a.data.toList.take k = b.data.toList.take k
theorem Pre.succ {a b : ByteArray} {k : Nat} (h : Pre a b k) (ha : k < a.size) (hb : k < b.size) (e : ((a[k].toNat : Int) == (b[k].toNat : Int)) = true) : Pre a b (k + 1) := by
  unfold Pre at h ⊢
  rw [take_snoc a k ha, take_snoc b k hb, h]
  have e' : a[k].toNat = b[k].toNat := by have := eq_of_beq e; omega
  rw [UInt8.toNat_inj.1 e']
theorem cmp_lt {a b : ByteArray} {k : Nat} (h : Pre a b k) (ha : k < a.size) (hb : k < b.size) (e : (a[k].toNat : Int) < b[k].toNat) : cmpT a b = -1 := by
  have e1 : a[k] < b[k] := by rw [UInt8.lt_iff_toNat_lt]; omega
  have e2 : ¬ b[k] < a[k] := by rw [UInt8.lt_iff_toNat_lt]; omega
  have l1 : le a b = true := by unfold le; rw [leL_drop h, drop_at a k ha, drop_at b k hb]; simp [leL, e1]
  have l2 : le b a = false := by unfold le; rw [leL_drop h.symm, drop_at a k ha, drop_at b k hb]; simp [leL, e1, e2]
  simp [cmpT, l1, l2]
theorem cmp_gt {a b : ByteArray} {k : Nat} (h : Pre a b k) (ha : k < a.size) (hb : k < b.size) (e : (b[k].toNat : Int) < a[k].toNat) : cmpT a b = 1 := by
  have e1 : b[k] < a[k] := by rw [UInt8.lt_iff_toNat_lt]; omega
  have e2 : ¬ a[k] < b[k] := by rw [UInt8.lt_iff_toNat_lt]; omega
  have l1 : le a b = false := by unfold le; rw [leL_drop h, drop_at a k ha, drop_at b k hb]; simp [leL, e1, e2]
  simp [cmpT, l1]
theorem drop_end (s : ByteArray) (k : Nat) (h : s.size ≤ k) : s.data.toList.drop k = [] := List.drop_eq_nil_of_le (by simpa using h)
theorem cmp_short {a b : ByteArray} {k : Nat} (h : Pre a b k) (ha : a.size = k) (hb : k < b.size) : cmpT a b = -1 := by
  have l1 : le a b = true := by unfold le; rw [leL_drop h, drop_end a k (by omega)]; simp [leL]
  have l2 : le b a = false := by unfold le; rw [leL_drop h.symm, drop_end a k (by omega), drop_at b k hb]; simp [leL]
  simp [cmpT, l1, l2]
theorem cmp_long {a b : ByteArray} {k : Nat} (h : Pre a b k) (hb : b.size = k) (ha : k < a.size) : cmpT a b = 1 := by
  have l1 : le a b = false := by unfold le; rw [leL_drop h, drop_end b k (by omega), drop_at a k ha]; simp [leL]
  simp [cmpT, l1]
theorem cmp_same {a b : ByteArray} {k : Nat} (h : Pre a b k) (ha : a.size = k) (hb : b.size = k) : cmpT a b = 0 := by
  rw [cmpT_zero]
  unfold Pre at h
  rw [List.take_of_length_le (by simp [ha]), List.take_of_length_le (by simp [hb])] at h
  exact data_inj h
theorem ret_int {k : IntKind} {a b : Int} (h : a = b) : Ending.returned (.int k a) = .returned (.int k b) := by rw [h]

set_option maxHeartbeats 400000 in
/-- compareTexts. -/
theorem compare_any (a b : ByteArray) (w : World) (ha : a.size ≤ 1048576) (hb : b.size ≤ 1048576) :
    Calls Try.prog 22 #[.string a, .string b] w fun e w' => e = .returned (.int .i64 (cmpT a b)) ∧ ∃ m, w' = w.drewN m := by
  by_cases hab : b.size < a.size
  · have d1 : decide ((b.size : Int) < (a.size : Int)) = true := decide_eq_true (by omega)
    go_enter Try.func22, Try.ntmps22
    go_wp2
    go_loopw [6] (fun i wr => ∃ k m : Nat, k ≤ b.size ∧ i = .int .i64 k ∧ Hid (Pre a b k) ∧ wr = w.drewN m) (fun i _ => b.size - (intOf i).toNat)
    case atStart => exact ⟨0, 0, Nat.zero_le _, rfl, rfl, rfl⟩
    case round =>
      obtain ⟨k, m, hk, rfl, HP, rfl⟩ := hrel
      by_cases hlt : k < b.size
      · have ka : k < a.size := by omega
        have kb : k < b.size := by omega
        have ia : (k : Int) < a.size := by omega
        have ib : (k : Int) < b.size := by omega
        rcases (show (a[k].toNat : Int) < b[k].toNat ∨ (b[k].toNat : Int) < a[k].toNat ∨ (a[k].toNat : Int) = b[k].toNat from by omega) with h | h | h
        · have hne : ((a[k].toNat : Int) == (b[k].toNat : Int)) = false := by simp; omega
          have HC : Hid (cmpT a b = -1) := cmp_lt HP.out ka kb h
          go_wp2
          go_quiet (fail)
          go_wp2
          go_quiet (fail)
          go_wp2
          go_ret
          exact ⟨ret_int HC.out.symm, _, by rw [World.drewN_drewN, World.drewN_drewN]⟩
        · have hne : ((a[k].toNat : Int) == (b[k].toNat : Int)) = false := by simp; omega
          have hnl : ¬ (a[k].toNat : Int) < b[k].toNat := by omega
          have HC : Hid (cmpT a b = 1) := cmp_gt HP.out ka kb h
          go_wp2
          go_quiet (fail)
          go_wp2
          go_quiet (fail)
          go_wp2
          go_ret
          exact ⟨ret_int HC.out.symm, _, by rw [World.drewN_drewN, World.drewN_drewN]⟩
        · have hq : ((a[k].toNat : Int) == (b[k].toNat : Int)) = true := by simpa using h
          have HP' : Hid (Pre a b (k + 1)) := HP.out.succ ka kb hq
          clear h
          go_wp2
          go_quiet (fail)
          go_wp2
          go_roundw
          case rel => exact ⟨k + 1, _, by omega, by go_num, HP', rfl⟩
          case measure => simp [intOf]; omega
      · obtain rfl : k = b.size := by omega
        have HC : Hid (cmpT a b = 1) := cmp_long HP.out rfl hab
        go_wp2
        go_ret
        exact ⟨ret_int HC.out.symm, _, rfl⟩
  · have hab' : a.size ≤ b.size := by omega
    have d1 : decide ((b.size : Int) < (a.size : Int)) = false := decide_eq_false (by omega)
    go_enter Try.func22, Try.ntmps22
    go_wp2
    go_loopw [6] (fun i wr => ∃ k m : Nat, k ≤ a.size ∧ i = .int .i64 k ∧ Hid (Pre a b k) ∧ wr = w.drewN m) (fun i _ => a.size - (intOf i).toNat)
    case atStart => exact ⟨0, 0, Nat.zero_le _, rfl, rfl, rfl⟩
    case round =>
      obtain ⟨k, m, hk, rfl, HP, rfl⟩ := hrel
      by_cases hlt : k < a.size
      · have ka : k < a.size := by omega
        have kb : k < b.size := by omega
        have ia : (k : Int) < a.size := by omega
        have ib : (k : Int) < b.size := by omega
        rcases (show (a[k].toNat : Int) < b[k].toNat ∨ (b[k].toNat : Int) < a[k].toNat ∨ (a[k].toNat : Int) = b[k].toNat from by omega) with h | h | h
        · have hne : ((a[k].toNat : Int) == (b[k].toNat : Int)) = false := by simp; omega
          have HC : Hid (cmpT a b = -1) := cmp_lt HP.out ka kb h
          go_wp2
          go_quiet (fail)
          go_wp2
          go_quiet (fail)
          go_wp2
          go_ret
          exact ⟨ret_int HC.out.symm, _, by rw [World.drewN_drewN, World.drewN_drewN]⟩
        · have hne : ((a[k].toNat : Int) == (b[k].toNat : Int)) = false := by simp; omega
          have hnl : ¬ (a[k].toNat : Int) < b[k].toNat := by omega
          have HC : Hid (cmpT a b = 1) := cmp_gt HP.out ka kb h
          go_wp2
          go_quiet (fail)
          go_wp2
          go_quiet (fail)
          go_wp2
          go_ret
          exact ⟨ret_int HC.out.symm, _, by rw [World.drewN_drewN, World.drewN_drewN]⟩
        · have hq : ((a[k].toNat : Int) == (b[k].toNat : Int)) = true := by simpa using h
          have HP' : Hid (Pre a b (k + 1)) := HP.out.succ ka kb hq
          clear h
          go_wp2
          go_quiet (fail)
          go_wp2
          go_roundw
          case rel => exact ⟨k + 1, _, by omega, by go_num, HP', rfl⟩
          case measure => simp [intOf]; omega
      · obtain rfl : k = a.size := by omega
        by_cases hl : a.size < b.size
        · have HC : Hid (cmpT a b = -1) := cmp_short HP.out rfl hl
          go_wp2
          go_ret
          exact ⟨ret_int HC.out.symm, _, rfl⟩
        · have HC : Hid (cmpT a b = 0) := cmp_same HP.out rfl (by omega)
          go_wp2
          go_ret
          exact ⟨ret_int HC.out.symm, _, rfl⟩
end Go.Proofs.Qxb6600942a
