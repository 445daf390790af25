import Derived.Test.Qxb6600845aHex4Walk
import Derived.WalkSmall
namespace Go.Proofs.Qxb6600845a
open Go.RowKit
open HexPlain
set_option linter.unusedVariables false

set_option maxHeartbeats 400000 in
/-- ZZHex4 where fewer than four bytes are left. -/
theorem zzhex4_short (a : Option Addr) (n cap p : Nat) (w : World) (hn : n ≤ 4194304) (hp : p ≤ 1048576) (h : n < p + 4) :
    Calls Try.prog 8 #[.slice a n cap, .int .i64 p] w fun e w' => e = .returned (.tuple #[.int .i32 0, .bool false, .int .i64 p]) ∧ Below w.heap.size w w' := by
  go_enter Try.func8, Try.ntmps8
  go_wp2_with (go_at_call 17; refine (hex4_short _ a n cap p _ hn hp h (by simp) (by simp)).mono ?_; rintro e w' ⟨rfl, k, rfl⟩)
  go_quiet (fail)
  go_wp2
  go_ret3
  exact ⟨rfl, below_drewN (below_drewN ((Below.refl _ _).alloc (Nat.le_refl _) _) _) _⟩

set_option maxHeartbeats 400000 in
/-- ZZHex4 where four bytes are left. -/
theorem zzhex4_long (db off : Nat) (n cap p : Nat) (c : Nat → Int) (w : World) (hn : n ≤ 4194304) (hcap : n ≤ cap) (hp : p ≤ 1048576) (h : p + 4 ≤ n) (hdb : db < w.heap.size)
    (hc : ∀ j, j < 4 → w.cell? ⟨db, off + p + j, none⟩ = some (.int .u8 (c j))) (hb : ∀ j, 0 ≤ c j ∧ c j ≤ 255) :
    Calls Try.prog 8 #[.slice (some ⟨db, off, none⟩) n cap, .int .i64 p] w fun e w' =>
      (((∀ j, j < 4 → 0 ≤ hexv (c j)) ∧ e = .returned (.tuple #[.int .i32 (acc c 4), .bool true, .int .i64 (p + 4)])) ∨
      ((∃ j, j < 4 ∧ hexv (c j) < 0) ∧ e = .returned (.tuple #[.int .i32 0, .bool false, .int .i64 p]))) ∧ Below w.heap.size w w' := by
  have hc' : ∀ (o : Obj) (j : Nat), j < 4 → (w.alloc o).cell? ⟨db, off + p + j, none⟩ = some (.int .u8 (c j)) := fun o j hj => by rw [World.cell?_alloc_past _ _ _ (by simpa using hdb)]; exact hc j hj
  have HC : Hid (∀ (o : Obj) (j : Nat), j < 4 → (w.alloc o).cell? ⟨db, off + p + j, none⟩ = some (.int .u8 (c j))) := hc'
  clear hc' hc
  go_enter Try.func8, Try.ntmps8
  go_wp2_with fail
  refine (hex4_long _ db off n cap p c _ hn hcap hp h (by simp) (by simp) (by simp) (HC.out _) hb).mono ?_
  rintro e w' (⟨hall, rfl, k, rfl⟩ | ⟨hno, rfl, k, rfl⟩)
  · go_wp2
    go_quiet (fail)
    go_wp2
    go_ret3
    exact ⟨.inl ⟨hall, rfl⟩, below_drewN (Below.setCell (below_drewN ((Below.refl _ _).alloc (Nat.le_refl _) _) _) (Nat.le_refl _) _) _⟩
  · go_wp2
    go_quiet (fail)
    go_wp2
    go_ret3
    exact ⟨.inr ⟨hno, rfl⟩, below_drewN (below_drewN ((Below.refl _ _).alloc (Nat.le_refl _) _) _) _⟩
end Go.Proofs.Qxb6600845a
