import Derived.Test.Qxb6600845aSkipWalk
namespace Go.Proofs.Qxb6600845a
open Go.RowKit
set_option linter.unusedVariables false

theorem zzskip_out (a : Option Addr) (n cap p : Nat) (w : World) (hn : n ≤ 4194304) (hp : p ≤ 4194304) (h : n ≤ p) :
    Calls Try.prog 13 #[.slice a n cap, .int .i64 p] w fun e w' => e = .returned (.int .i64 p) ∧ Below w.heap.size w w' := by
  go_enter Try.func13, Try.ntmps13
  go_wp2_with (go_at_call 18; refine (skip_out _ a n cap p _ hn hp h (by simp) (by simp)).mono ?_; rintro e w' ⟨rfl, k, rfl⟩)
  go_ret
  exact ⟨rfl, below_drewN ((Below.refl _ _).alloc (Nat.le_refl _) _) _⟩

theorem zzskip_in (db off n cap p : Nat) (zs : List Int) (w : World) (hn : n ≤ 4194304) (h : p ≤ n) (hz : zs.length = n) (hdb : db < w.heap.size)
    (hc : ∀ j, j < n → w.cell? ⟨db, off + j, none⟩ = some (.int .u8 (zs.getD j 0))) :
    Calls Try.prog 13 #[.slice (some ⟨db, off, none⟩) n cap, .int .i64 p] w fun e w' => ∃ q : Nat, Lands zs p q ∧ e = .returned (.int .i64 q) ∧ Below w.heap.size w w' := by
  have HC : Hid (∀ (o : Obj) (j : Nat), j < n → (w.alloc o).cell? ⟨db, off + j, none⟩ = some (.int .u8 (zs.getD j 0))) := fun o j hj => by rw [World.cell?_alloc_past _ _ _ (by simpa using hdb)]; exact hc j hj
  have HZ : Hid (zs.length = n) := hz
  clear hc hz
  go_enter Try.func13, Try.ntmps13
  go_wp2_with (go_at_call 18; refine (skip_in _ db off n cap p zs _ hn h HZ.out hdb (by simp) (by simp) (by simp) (HC.out _)).mono ?_; rintro e w' ⟨rfl, q, hq, hcq, hb⟩)
  go_ret
  exact ⟨q, hq, rfl, ((Below.refl _ _).alloc (Nat.le_refl _) _).trans hb⟩

theorem zzb12_yes (a : Option Addr) (n cap : Nat) (p : Int) (w : World) (hn : n ≤ 1048576) :
    Calls Try.prog 12 #[.slice a n cap, .int .i64 p] w fun e w' => e = .returned (.bool true) ∧ w = w' := by
  go_enter Try.func12, Try.ntmps12
  go_wp2
  go_ret
  exact ⟨rfl, rfl⟩
theorem zzb12_no (a : Option Addr) (n cap : Nat) (p : Int) (w : World) (hn : 1048576 < n) (hm : n ≤ maxLen) :
    Calls Try.prog 12 #[.slice a n cap, .int .i64 p] w fun e w' => e = .returned (.bool false) ∧ w = w' := by
  unfold maxLen at hm
  go_enter Try.func12, Try.ntmps12
  go_wp2
  go_ret
  exact ⟨rfl, rfl⟩
theorem sk_big (a : Option Addr) (n cap : Nat) (p : Int) (w : World) (hn : 1048576 < n) (hm : n ≤ maxLen) :
    Calls Try.prog 5 #[.slice a n cap, .int .i64 p] w fun e w' => e = .returned (.bool true) ∧ Below w.heap.size w w' := by
  go_enter Try.func5, Try.ntmps5
  go_wp2_with (go_at_call 12; refine (zzb12_no _ _ _ _ _ hn hm).mono ?_; rintro e w' ⟨rfl, rfl⟩)
  go_ret
  exact ⟨rfl, Below.refl _ _⟩
theorem sk_pos (a : Option Addr) (n cap : Nat) (p : Int) (w : World) (hn : n ≤ 1048576) (hp : p < 0 ∨ 1048576 < p) :
    Calls Try.prog 5 #[.slice a n cap, .int .i64 p] w fun e w' => e = .returned (.bool true) ∧ Below w.heap.size w w' := by
  rcases hp with hp | hp
  all_goals
    go_enter Try.func5, Try.ntmps5
    go_wp2_with (go_at_call 12; refine (zzb12_yes _ _ _ _ _ hn).mono ?_; rintro e w' ⟨rfl, rfl⟩)
    go_ret
    exact ⟨rfl, Below.refl _ _⟩
theorem sk_nil (p : Nat) (w : World) (hp : p ≤ 1048576) :
    Calls Try.prog 5 #[.slice none 0 0, .int .i64 p] w fun e w' => e = .returned (.bool true) ∧ Below w.heap.size w w' := by
  have hne := fun wx => run_neq_slice_nil_any (P := Try.prog) wx 22 5 none 0 0 0 0 Try.underlying22
  go_enter Try.func5, Try.ntmps5
  go_wp2_with (first
    | (go_at_call 12; refine (zzb12_yes _ _ _ _ _ (by omega)).mono ?_; rintro e w' ⟨rfl, rfl⟩)
    | (go_at_call 13; refine (zzskip_out none 0 0 p _ (by omega) (by omega) (by omega)).mono ?_; rintro e w' ⟨rfl, hb⟩))
  go_ret
  exact ⟨rfl, hb⟩
theorem sk_out (x : Addr) (n cap p : Nat) (zs : List Int) (w : World) (hn : n ≤ 1048576) (hp : p ≤ 1048576) (h : n ≤ p) (hz : zs.length = n)
    (hc : ∀ j, j < zs.length → w.cell? (x.add j) = some (.int .u8 (zs.getD j 0))) :
    Calls Try.prog 5 #[.slice (some x) n cap, .int .i64 p] w fun e w' => e = .returned (.bool true) ∧ Below w.heap.size w w' := by
  have hne := fun wx => run_neq_slice_nil_any (P := Try.prog) wx 22 5 (some x) n cap 0 0 Try.underlying22
  have hmk := make_bytes n (by omega)
  obtain ⟨W2, hcp, hrow, hB⟩ := copied x n cap zs w hz hc
  clear hc hz hrow
  go_enter Try.func5, Try.ntmps5
  go_wp2_with (first
    | (go_at_call 12; refine (zzb12_yes _ _ _ _ _ (by omega)).mono ?_; rintro e w' ⟨rfl, rfl⟩)
    | (go_at_call 13; refine (zzskip_out _ n n p _ (by omega) (by omega) (by omega)).mono ?_; rintro e w' ⟨rfl, hb⟩))
  go_ret
  exact ⟨rfl, hB.trans (hb.mono hB.size)⟩

set_option maxHeartbeats 1000000 in
theorem sk_in (x : Addr) (n cap p : Nat) (zs : List Int) (w : World) (hn : n ≤ 1048576) (hp : p ≤ 1048576) (h : p < n) (hz : zs.length = n)
    (hc : ∀ j, j < zs.length → w.cell? (x.add j) = some (.int .u8 (zs.getD j 0))) :
    Calls Try.prog 5 #[.slice (some x) n cap, .int .i64 p] w fun e w' => e = .returned (.bool true) ∧ Below w.heap.size w w' := by
  have hne := fun wx => run_neq_slice_nil_any (P := Try.prog) wx 22 5 (some x) n cap 0 0 Try.underlying22
  have hmk := make_bytes n (by omega)
  obtain ⟨W2, hcp, hrow, hB⟩ := copied x n cap zs w hz hc
  have hlt := hrow.lt
  have cells : ∀ j, j < n → W2.cell? ⟨w.heap.size, 0 + j, none⟩ = some (.int .u8 (zs.getD j 0)) := fun j hj => by rw [Nat.zero_add]; exact hrow.cell j (by omega)
  have HC : Hid (∀ j, j < n → W2.cell? ⟨w.heap.size, 0 + j, none⟩ = some (.int .u8 (zs.getD j 0))) := cells
  have HZ : Hid (zs.length = n) := hz
  clear hc hz hrow cells
  go_enter Try.func5, Try.ntmps5
  go_wp2_with (go_at_call 12; refine (zzb12_yes _ _ _ _ _ (by omega)).mono ?_; rintro e w' ⟨rfl, rfl⟩)
  refine (zzskip_in w.heap.size 0 n n p zs _ (by omega) (by omega) HZ.out hlt HC.out).mono ?_
  rintro e w3 ⟨q, hq, rfl, hb⟩
  obtain ⟨q1, q2, q3, q4⟩ := hq
  rw [HZ.out] at q2
  have Q3 : Hid (∀ j, p ≤ j → j < q → isSp (zs.getD j 0) = true) := q3
  have Q4 : Hid (q < n → isSp (zs.getD q 0) = false) := fun h => q4 (by rw [HZ.out]; exact h)
  have C3 : Hid (∀ j, j < n → w3.cell? ⟨w.heap.size, j, none⟩ = some (.int .u8 (zs.getD j 0))) := fun j hj => by rw [hb.cell hlt]; simpa using HC.out j hj
  have fin : Below w.heap.size w w3 := hB.trans (hb.mono hB.size)
  clear q3 q4 hcp hmk hne HC
  have d1 : decide (q < p) = false := decide_eq_false (by omega)
  have d2 : decide (n < q) = false := decide_eq_false (by omega)
  have d5 : decide (n ≤ p) = false := decide_eq_false (by omega)
  have d6 : decide ((n : Int) ≤ (p : Int)) = false := decide_eq_false (by omega)
  have d3 : decide ((q : Int) < (p : Int)) = false := decide_eq_false (by omega)
  have d4 : decide ((n : Int) < (q : Int)) = false := decide_eq_false (by omega)
  go_wp2
  go_loop [7] (fun i => ∃ k : Nat, p ≤ k ∧ k ≤ q ∧ i = .int .i64 k) (fun i => q - (intOf i).toNat)
  case atStart => exact ⟨p, Nat.le_refl _, q1, rfl⟩
  case round =>
    obtain ⟨k, hk1, hk2, rfl⟩ := hrel
    by_cases hkq : k < q
    · have hck := C3.out k (by omega)
      have hsp := Q3.out k hk1 hkq
      obtain ⟨c, hcc⟩ : ∃ c, c = zs.getD k 0 := ⟨_, rfl⟩
      rw [← hcc] at hck hsp
      clear hcc
      go_wp2_with (go_at_call 14; refine (space_any _ _).mono ?_; rintro e w'' ⟨rfl, rfl⟩)
      go_round
      case rel => exact ⟨k + 1, by omega, by omega, by go_num⟩
      case measure => simp [intOf]; omega
    · obtain rfl : k = q := by omega
      by_cases hqn : k < n
      · have hck := C3.out k hqn
        have hsp := Q4.out hqn
        obtain ⟨c, hcc⟩ : ∃ c, c = zs.getD k 0 := ⟨_, rfl⟩
        rw [← hcc] at hck hsp
        clear hcc
        go_wp2_with (go_at_call 14; refine (space_any _ _).mono ?_; rintro e w'' ⟨rfl, rfl⟩)
        go_ret
        exact ⟨rfl, fin⟩
      · go_wp2
        go_ret
        exact ⟨rfl, fin⟩
end Go.Proofs.Qxb6600845a
