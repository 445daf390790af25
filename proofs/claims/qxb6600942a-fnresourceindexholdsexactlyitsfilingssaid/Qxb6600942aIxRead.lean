/-
  THE INDEX'S READERS: what each hands back of an index in memory.
-/
import Derived.Test.Qxb6600942aIxInv
namespace Go.Proofs.Qxb6600942a
open Go.RowKit
set_option linter.unusedVariables false

section
variable {w : World} {B X S n : Nat} {own : Nat → Tag} {st : Nat → Int} {σ : St} {g : Gh} {a1 a2 : Option Addr} {n1 c1 n2 c2 : Nat}
theorem always_any (a1 : Option Addr) (n1 c1 : Nat) (a2 : Option Addr) (n2 c2 : Nat) (w : World) :
    Calls Try.prog 19 #[ixv a1 n1 c1 a2 n2 c2] w fun e w' => e = .returned (.slice none 0 0) ∧ ∃ o, w' = w.alloc o := by
  unfold ixv
  go_enter Try.func19, Try.ntmps19
  go_wp2
  exact bodyPost_ret (v := .slice none 0 0) (by simp [results, Try.results19, go_sem]) rfl ⟨rfl, _, rfl⟩
theorem buckets_any (a1 : Option Addr) (n1 c1 : Nat) (a2 : Option Addr) (n2 c2 : Nat) (w : World) :
    Calls Try.prog 20 #[ixv a1 n1 c1 a2 n2 c2] w fun e w' => e = .returned (.slice a1 n1 c1) ∧ ∃ o, w' = w.alloc o := by
  unfold ixv
  go_enter Try.func20, Try.ntmps20
  go_wp2
  exact bodyPost_ret (v := .slice a1 n1 c1) (by simp [results, Try.results20, go_sem]) rfl ⟨rfl, _, rfl⟩
theorem count_any (a1 : Option Addr) (n1 c1 : Nat) (a2 : Option Addr) (n2 c2 : Nat) (w : World) :
    Calls Try.prog 21 #[ixv a1 n1 c1 a2 n2 c2] w fun e w' => e = .returned (.int .i64 n2) ∧ ∃ o, w' = w.alloc o := by
  unfold ixv
  go_enter Try.func21, Try.ntmps21
  go_wp2
  exact bodyPost_ret (v := .int .i64 n2) (by simp [results, Try.results21, go_sem]) rfl ⟨rfl, _, rfl⟩
theorem row_val {e size n : Nat} {v : Value} {xs : List Value} (h : w.ownsRow B e size v n xs) {i : Nat} (hi : i < n) : ∃ gb cb, v = .slice (some ⟨gb, 0, none⟩) n cb ∧ gb < w.heap.size := by
  rcases h.2 with ⟨_, h0⟩ | ⟨gb, cap, cur, rfl, _, hh, _⟩
  · omega
  · exact ⟨gb, cap, rfl, (Array.getElem?_eq_some_iff.1 hh).1⟩
theorem row_shape {e size n : Nat} {v : Value} {xs : List Value} (h : w.ownsRow B e size v n xs) : ∃ a c, v = .slice a n c := by
  rcases h.2 with ⟨rfl, h0⟩ | ⟨gb, cap, cur, rfl, _, hh, _⟩
  · exact ⟨none, 0, by rw [h0]⟩
  · exact ⟨_, cap, rfl⟩
theorem itself_any (h : IxM w B X S n own st σ g) (hY : g.vY = .slice a2 n2 c2) {b : Nat} (hb : b < σ.nb) :
    Calls Try.prog 23 #[ixv a1 n1 c1 a2 n2 c2, .int .i64 b] w fun e w' => e = .returned (itv S (σ.it b)) ∧ ∃ o, w' = w.alloc o := by
  obtain ⟨gy, cy, hv, hlt⟩ := row_val h.hy.1 hb
  have c := h.yI hv hb
  rw [hY] at hv
  cases hv
  have i1 : (b : Int) < σ.nb := by omega
  obtain ⟨a, k, cc, hV⟩ : ∃ a k cc, itv S (σ.it b) = .slice a k cc := by
    cases σ.it b with
    | none => exact ⟨none, 0, 0, rfl⟩
    | some r => exact ⟨_, _, _, rfl⟩
  rw [hV] at c ⊢
  clear h
  unfold ixv
  go_enter Try.func23, Try.ntmps23
  go_wp2
  exact bodyPost_ret (v := .slice a k cc) (by simp [results, Try.results23, go_sem]) rfl ⟨rfl, _, rfl⟩
theorem groups_any (h : IxM w B X S n own st σ g) (hY : g.vY = .slice a2 n2 c2) {b : Nat} (hb : b < σ.nb) :
    Calls Try.prog 25 #[ixv a1 n1 c1 a2 n2 c2, .int .i64 b] w fun e w' => e = .returned (.int .i64 (σ.no b)) ∧ ∃ o, w' = w.alloc o := by
  obtain ⟨gy, cy, hv, hlt⟩ := row_val h.hy.1 hb
  have c := h.yO hv hb
  obtain ⟨a, cc, hV⟩ := row_shape (h.ho b hb).1
  rw [hY] at hv
  cases hv
  have i1 : (b : Int) < σ.nb := by omega
  rw [hV] at c
  clear h
  unfold ixv
  go_enter Try.func25, Try.ntmps25
  go_wp2
  exact bodyPost_ret (v := .int .i64 (σ.no b)) (by simp [results, Try.results25, go_sem]) rfl ⟨rfl, _, rfl⟩
theorem prefixes_any (h : IxM w B X S n own st σ g) (hY : g.vY = .slice a2 n2 c2) {b j : Nat} (hb : b < σ.nb) (hj : j < σ.no b) :
    Calls Try.prog 26 #[ixv a1 n1 c1 a2 n2 c2, .int .i64 b, .int .i64 j] w fun e w' => e = .returned (g.vp b j) ∧ ∃ o, w' = w.alloc o := by
  obtain ⟨gy, cy, hv, hlt⟩ := row_val h.hy.1 hb
  have c := h.yO hv hb
  obtain ⟨go, co, hv2, hlt2⟩ := row_val (h.ho b hb).1 hj
  have c2 := h.oP hb hv2 hj
  obtain ⟨a, cc, hV⟩ := row_shape (h.hp b j hb hj).1
  rw [hY] at hv
  cases hv
  have i1 : (b : Int) < σ.nb := by omega
  have i2 : (j : Int) < σ.no b := by omega
  rw [hv2] at c
  rw [hV] at c2 ⊢
  clear h
  unfold ixv
  go_enter Try.func26, Try.ntmps26
  go_wp2
  exact bodyPost_ret (v := .slice a (σ.ps b j).length cc) (by simp [results, Try.results26, go_sem]) rfl ⟨rfl, _, rfl⟩
theorem lists_any (h : IxM w B X S n own st σ g) (hY : g.vY = .slice a2 n2 c2) {b j : Nat} (hb : b < σ.nb) (hj : j < σ.no b) :
    Calls Try.prog 27 #[ixv a1 n1 c1 a2 n2 c2, .int .i64 b, .int .i64 j] w fun e w' => e = .returned (.int .i64 (σ.rs b j).length) ∧ ∃ o, w' = w.alloc o := by
  obtain ⟨gy, cy, hv, hlt⟩ := row_val h.hy.1 hb
  have c := h.yO hv hb
  obtain ⟨go, co, hv2, hlt2⟩ := row_val (h.ho b hb).1 hj
  have c2 := h.oL hb hv2 hj
  obtain ⟨a, cc, hV⟩ := row_shape (h.hl b j hb hj).1
  rw [hY] at hv
  cases hv
  have i1 : (b : Int) < σ.nb := by omega
  have i2 : (j : Int) < σ.no b := by omega
  rw [hv2] at c
  rw [hV] at c2
  clear h
  unfold ixv
  go_enter Try.func27, Try.ntmps27
  go_wp2
  exact bodyPost_ret (v := .int .i64 (σ.rs b j).length) (by simp [results, Try.results27, go_sem]) rfl ⟨rfl, _, rfl⟩
theorem list_any (h : IxM w B X S n own st σ g) (hY : g.vY = .slice a2 n2 c2) {b j q : Nat} (hb : b < σ.nb) (hj : j < σ.no b) (hq : q < (σ.rs b j).length) :
    Calls Try.prog 28 #[ixv a1 n1 c1 a2 n2 c2, .int .i64 b, .int .i64 j, .int .i64 q] w fun e w' => e = .returned (rv S (rg (σ.rs b j) q)) ∧ ∃ o, w' = w.alloc o := by
  obtain ⟨gy, cy, hv, hlt⟩ := row_val h.hy.1 hb
  have c := h.yO hv hb
  obtain ⟨go, co, hv2, hlt2⟩ := row_val (h.ho b hb).1 hj
  have c2 := h.oL hb hv2 hj
  obtain ⟨gl, cl, hv3, hlt3⟩ := row_val (h.hl b j hb hj).1 hq
  have c3 := h.lC hb hj hv3 hq
  change _ = some (rv S (rg (σ.rs b j) q)) at c3
  rw [hY] at hv
  cases hv
  have i1 : (b : Int) < σ.nb := by omega
  have i2 : (j : Int) < σ.no b := by omega
  have i3 : (q : Int) < (σ.rs b j).length := by omega
  rw [hv2] at c
  rw [hv3] at c2
  generalize rg (σ.rs b j) q = r at c3 ⊢
  obtain ⟨r1, r2⟩ := r
  unfold rv at *
  clear h
  unfold ixv
  go_enter Try.func28, Try.ntmps28
  go_wp2
  exact bodyPost_ret (v := .slice (some ⟨S, r1, none⟩) r2 r2) (by simp [results, Try.results28, go_sem]) rfl ⟨rfl, _, rfl⟩
end
end Go.Proofs.Qxb6600942a
