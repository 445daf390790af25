/-
  THE SEARCHES: what is in a rising list is found where it lies.
-/
import Derived.Test.Qxb6600942aIxRead
import Derived.Deep.RegionHeld3
import Derived.Deep.DeepCutAuto
import Derived.Deep.CutRange
import Derived.Deep.RegionLaw
namespace Go.Proofs.Qxb6600942a
open Go.RowKit
set_option linter.unusedVariables false

/-- A slice of ints in memory. -/
def IntsAt (w : World) (a : Option Addr) (k : Nat) (f : Nat → Int) : Prop := 0 < k → ∃ yb yo, a = some ⟨yb, yo, none⟩ ∧ ∀ j, j < k → w.cell? ⟨yb, yo + j, none⟩ = some (.int .i64 (f j))

set_option maxHeartbeats 1000000 in
theorem rising_any (a : Option Addr) (n cap : Nat) (f : Nat → Int) (w : World) (hS : IntsAt w a n f) (hn : n ≤ 65536) (hr : ∀ i, i + 1 < n → f i < f (i + 1)) :
    Calls Try.prog 24 #[.slice a n cap] w fun e w' => e = .returned (.bool true) ∧ ∃ m, w' = w.drewN m := by
  have HS : Hid (IntsAt w a n f) := hS
  have HR : Hid (∀ i, i + 1 < n → f i < f (i + 1)) := hr
  clear hS hr
  go_enter Try.func24, Try.ntmps24
  go_wp2
  go_loopw [3] (fun i wr => ∃ k m : Nat, 1 ≤ k ∧ (k ≤ n ∨ k = 1) ∧ i = .int .i64 k ∧ wr = w.drewN m) (fun i _ => n - (intOf i).toNat)
  case atStart => exact ⟨1, 0, by omega, .inr rfl, rfl, rfl⟩
  case round =>
    obtain ⟨k, m, hk1, hk, rfl, rfl⟩ := hrel
    by_cases hlt : k < n
    · obtain ⟨k0, HK0⟩ : ∃ k0, Hid (k = k0 + 1) := ⟨k - 1, (show _ = _ by omega)⟩
      have hk0n : k0 < n := by have := HK0.out; omega
      have hri : (k : Int) - 1 = (k0 : Int) := by have := HK0.out; omega
      have hw1 : wrap64 (k0 : Int) = (k0 : Int) := by unfold wrap64; omega
      have hw2 : IntKind.i64.wrap (k0 : Int) = (k0 : Int) := by rw [IntKind.wrap_i64]; omega
      have hn0 : (0 : Int) ≤ (k0 : Int) := by omega
      obtain ⟨yb, yo, rfl, hc⟩ := HS.out (by omega)
      have c0 := hc k0 hk0n
      have c1 := hc k hlt
      have hd : ¬ f k ≤ f k0 := by
        have := HR.out k0 (by have := HK0.out; omega)
        rw [← HK0.out] at this; omega
      generalize f k0 = x0 at *
      generalize f k = x1 at *
      have i0 : (k0 : Int) < n := by omega
      have i1 : (k : Int) < n := by omega
      clear hc
      go_wp2
      go_quiet (fail)
      go_wp2
      go_roundw
      case rel => exact ⟨k + 1, _, by omega, by omega, by go_num, rfl⟩
      case measure => simp [intOf]; omega
    · have d1 : ¬ (k : Int) < n := by omega
      go_wp2
      go_ret
      exact ⟨rfl, _, rfl⟩

theorem mid_cast {lo hi : Nat} (h : lo ≤ hi) : ((hi : Int) - (lo : Int)).tdiv 2 = (((hi - lo) / 2 : Nat) : Int) := by
  rw [show (hi : Int) - lo = ((hi - lo : Nat) : Int) from by omega]; rfl
set_option maxHeartbeats 1000000 in
theorem searchText_any (a : Option Addr) (n cap : Nat) (ss : List ByteArray) (w : World) (hS : Strs w a n cap ss) (hn : n ≤ 65536) (hz : ∀ i, i < n → (nm ss i).size ≤ 1048576) (hr : ∀ i, i + 1 < n → cmpT (nm ss i) (nm ss (i + 1)) < 0) (t : ByteArray) (b0 : Nat) (hb : b0 < n) (ht : nm ss b0 = t) :
    Calls Try.prog 38 #[.slice a n cap, .string t] w fun e w' => e = .returned (.int .i64 b0) ∧ ∃ m, w' = w.drewN m := by
  have HS : Hid (Strs w a n cap ss) := hS
  have HR : Hid (∀ i j, i < j → j < n → cmpT (nm ss i) (nm ss j) < 0) := rise_all (lt := fun a b => cmpT a b < 0) (fun _ _ _ => cmpT_trans) hr
  have HZ : Hid (∀ i, i < n → (nm ss i).size ≤ 1048576) := hz
  have HT : Hid (nm ss b0 = t) := ht
  have hzt : t.size ≤ 1048576 := by rw [← ht]; exact hz b0 hb
  clear hS hr hz ht
  go_enter Try.func38, Try.ntmps38
  go_wp2
  go_loopw [5, 6] (fun l h wr => ∃ lo hi m : Nat, lo ≤ b0 ∧ b0 < hi ∧ hi ≤ n ∧ l = .int .i64 lo ∧ h = .int .i64 hi ∧ wr = w.drewN m) (fun l h _ => (intOf h).toNat - (intOf l).toNat)
  case atStart => exact ⟨0, n, 0, by omega, hb, by omega, rfl, rfl, rfl⟩
  case round =>
    obtain ⟨lo, hi, m, h1, h2, h3, rfl, rfl, rfl⟩ := hrel
    have hlh : (lo : Int) < hi := by omega
    obtain ⟨mid, HM⟩ : ∃ mid, Hid (mid = lo + (hi - lo) / 2) := ⟨_, rfl⟩
    have hm : mid < n := by have := HM.out; omega
    have i1 : (mid : Int) < n := by omega
    obtain ⟨yb, yo, rfl, c, _⟩ := HS.out.at hm
    have zm := HZ.out mid hm
    have em : (lo : Int) + ((hi : Int) - lo) / 2 = (mid : Int) := by have := HM.out; omega
    have hm1 : lo ≤ mid ∧ mid < hi := by have := HM.out; omega
    rcases (show mid = b0 ∨ mid < b0 ∨ b0 < mid from by omega) with hq | hq | hq
    · subst hq
      have hc : cmpT (nm ss mid) t = 0 := by rw [HT.out]; exact cmpT_zero.2 rfl
      have HT' : Hid (nm ss mid = t) := HT
      clear HT
      generalize nm ss mid = x at *
      go_wp2_with fail
      refine (compare_any _ _ _ zm hzt).mono ?_
      rintro e w2 ⟨rfl, m2, rfl⟩
      go_wp2
      go_ret
      exact ⟨rfl, _, rfl⟩
    · have hc : cmpT (nm ss mid) t < 0 := by rw [← HT.out]; exact HR.out _ _ hq hb
      have hc0 : (cmpT (nm ss mid) t == 0) = false := by rw [beq_eq_false_iff_ne]; omega
      generalize nm ss mid = x at *
      go_wp2_with fail
      refine (compare_any _ _ _ zm hzt).mono ?_
      rintro e w2 ⟨rfl, m2, rfl⟩
      generalize cmpT x t = cc at *
      go_wp2
      go_roundw
      case rel => exact ⟨mid + 1, hi, _, by omega, by omega, by omega, by go_num, rfl, rfl⟩
      case measure => simp [intOf]; omega
    · have hc : ¬ cmpT (nm ss mid) t < 0 := by
        have := cmpT_pos.2 (HR.out _ _ hq hm)
        rw [HT.out] at this; omega
      have hc0 : (cmpT (nm ss mid) t == 0) = false := by
        have := cmpT_pos.2 (HR.out _ _ hq hm)
        rw [HT.out] at this
        rw [beq_eq_false_iff_ne]; omega
      generalize nm ss mid = x at *
      go_wp2_with fail
      refine (compare_any _ _ _ zm hzt).mono ?_
      rintro e w2 ⟨rfl, m2, rfl⟩
      generalize cmpT x t = cc at *
      go_wp2
      go_roundw
      case rel => exact ⟨lo, mid, _, by omega, by omega, by omega, rfl, rfl, rfl⟩
      case measure => simp [intOf]; omega
set_option maxHeartbeats 1000000 in
theorem searchInt_any (a : Option Addr) (n cap : Nat) (f : Nat → Int) (w : World) (hS : IntsAt w a n f) (hn : n ≤ 65536) (hr : ∀ i, i + 1 < n → f i < f (i + 1)) (t : Int) (b0 : Nat) (hb : b0 < n) (ht : f b0 = t) :
    Calls Try.prog 39 #[.slice a n cap, .int .i64 t] w fun e w' => e = .returned (.int .i64 b0) ∧ w' = w := by
  have HS : Hid (IntsAt w a n f) := hS
  have HR : Hid (∀ i j, i < j → j < n → f i < f j) := rise_all (lt := fun (a b : Int) => a < b) (fun _ _ _ h h' => by omega) hr
  have HT : Hid (f b0 = t) := ht
  clear hS hr ht
  go_enter Try.func39, Try.ntmps39
  go_wp2
  go_loop [5, 6] (fun l h => ∃ lo hi : Nat, lo ≤ b0 ∧ b0 < hi ∧ hi ≤ n ∧ l = .int .i64 lo ∧ h = .int .i64 hi) (fun l h => (intOf h).toNat - (intOf l).toNat)
  case atStart => exact ⟨0, n, by omega, hb, by omega, rfl, rfl⟩
  case round =>
    obtain ⟨lo, hi, h1, h2, h3, rfl, rfl⟩ := hrel
    have hlh : (lo : Int) < hi := by omega
    obtain ⟨mid, HM⟩ : ∃ mid, Hid (mid = lo + (hi - lo) / 2) := ⟨_, rfl⟩
    have hm : mid < n := by have := HM.out; omega
    have i1 : (mid : Int) < n := by omega
    obtain ⟨yb, yo, rfl, hc⟩ := HS.out (by omega)
    have c := hc mid hm
    clear hc
    have em : (lo : Int) + ((hi : Int) - lo) / 2 = (mid : Int) := by have := HM.out; omega
    have hm1 : lo ≤ mid ∧ mid < hi := by have := HM.out; omega
    rcases (show mid = b0 ∨ mid < b0 ∨ b0 < mid from by omega) with hq | hq | hq
    · subst hq
      rw [HT.out] at c
      go_wp2
      go_ret
      exact ⟨rfl, rfl⟩
    · have hc : f mid < t := by rw [← HT.out]; exact HR.out _ _ hq hb
      have hc0 : (f mid == t) = false := by rw [beq_eq_false_iff_ne]; omega
      generalize f mid = x at *
      go_wp2
      go_round
      case rel => exact ⟨mid + 1, hi, by omega, by omega, by omega, by go_num, rfl⟩
      case measure => simp [intOf]; omega
    · have hc : t < f mid := by rw [← HT.out]; exact HR.out _ _ hq hm
      have hc0 : (f mid == t) = false := by rw [beq_eq_false_iff_ne]; omega
      have hc1 : ¬ f mid < t := by omega
      generalize f mid = x at *
      go_wp2
      go_round
      case rel => exact ⟨lo, mid, by omega, by omega, by omega, rfl, rfl⟩
      case measure => simp [intOf]; omega

theorem cells_of_block {w : World} {b : Nat} {x y z : Value} {t : TypeId} (h : w.heap[b]? = some (.cells #[x, y, z] t)) : w.cell? ⟨b, 0, none⟩ = some x ∧ w.cell? ⟨b, 1, none⟩ = some y ∧ w.cell? ⟨b, 2, none⟩ = some z := by
  refine ⟨?_, ?_, ?_⟩ <;> simp [World.cell?, h]
theorem IxM.below {w w' : World} {B X S n : Nat} {own : Nat → Tag} {st : Nat → Int} {σ : St} {g : Gh} (h : IxM w B X S n own st σ g) (hb : Below w.heap.size w w') : IxM w' B X S n own st σ g := h.other fun k _ hk => hb.block k hk

set_option maxHeartbeats 1000000 in
theorem searchGroup_any {w : World} {B X S n : Nat} {own : Nat → Tag} {st : Nat → Int} {σ : St} {g : Gh} {a1 a2 : Option Addr} {n1 c1 n2 c2 : Nat} (h : IxM w B X S n own st σ g) (hY : g.vY = .slice a2 n2 c2) {b : Nat} (hb : b < σ.nb) (hn : σ.no b ≤ 65536)
    (hp : ∀ j, j < σ.no b → 0 < (σ.ps b j).length) (hr : ∀ j, j + 1 < σ.no b → (nm (σ.ps b j) 0).size < (nm (σ.ps b (j + 1)) 0).size) (G wid : Nat) (hG : G < σ.no b) (hw : (nm (σ.ps b G) 0).size = wid) :
    Calls Try.prog 40 #[ixv a1 n1 c1 a2 n2 c2, .int .i64 b, .int .i64 wid] w fun e w' => e = .returned (.int .i64 G) ∧ Below w.heap.size w w' := by
  have HX : Hid (∀ W, Below w.heap.size w W → IxM W B X S n own st σ g) := fun W hW => h.below hW
  have HP : Hid (∀ j, j < σ.no b → 0 < (σ.ps b j).length) := hp
  have HR : Hid (∀ i j, i < j → j < σ.no b → (nm (σ.ps b i) 0).size < (nm (σ.ps b j) 0).size) := rise_all (lt := fun (a b : Nat) => a < b) (f := fun j => (nm (σ.ps b j) 0).size) (fun _ _ _ h h' => by omega) hr
  have HW : Hid ((nm (σ.ps b G) 0).size = wid) := hw
  have HC := groups_any (a1 := a1) (n1 := n1) (c1 := c1) (h.alloc (.cells #[.slice none 0 0, .slice a1 n1 c1, .slice a2 n2 c2] 39)) hY hb
  clear h hr hp hw
  unfold ixv at HC ⊢
  go_enter Try.func40, Try.ntmps40
  go_wp2_with fail
  refine HC.mono ?_
  rintro e w1 ⟨rfl, o1, rfl⟩
  clear HC
  go_wp2
  obtain ⟨W0, hW0⟩ : ∃ W0, W0 = (w.alloc (.cells #[.slice none 0 0, .slice a1 n1 c1, .slice a2 n2 c2] 39)).alloc o1 := ⟨_, rfl⟩
  rw [← hW0]
  have HB0 : Hid (Below (w.heap.size + 1) (w.alloc (.cells #[.slice none 0 0, .slice a1 n1 c1, .slice a2 n2 c2] 39)) W0) := by
    rw [hW0]; exact (Below.refl _ _).alloc (by simp) _
  clear hW0
  go_loopw [7, 8] (fun l h wr => ∃ lo hi : Nat, lo ≤ G ∧ G < hi ∧ hi ≤ σ.no b ∧ l = .int .i64 lo ∧ h = .int .i64 hi ∧ Hid (Below (w.heap.size + 1) (w.alloc (.cells #[.slice none 0 0, .slice a1 n1 c1, .slice a2 n2 c2] 39)) wr)) (fun l h _ => (intOf h).toNat - (intOf l).toNat)
  case atStart => exact ⟨0, σ.no b, by omega, hG, by omega, rfl, rfl, HB0⟩
  case round =>
    clear HB0
    obtain ⟨lo, hi, h1, h2, h3, rfl, rfl, HB⟩ := hrel
    have hlh : (lo : Int) < hi := by omega
    obtain ⟨mid, HM⟩ : ∃ mid, Hid (mid = lo + (hi - lo) / 2) := ⟨_, rfl⟩
    have hm : mid < σ.no b := by have := HM.out; omega
    have em : (lo : Int) + ((hi : Int) - lo) / 2 = (mid : Int) := by have := HM.out; omega
    have hm1 : lo ≤ mid ∧ mid < hi := by have := HM.out; omega
    have HBB : Hid (∀ o, Below w.heap.size w (wr.alloc o)) := fun o => (((Below.refl _ _).alloc (Nat.le_refl _) _).trans (HB.out.mono (by omega))).alloc (by have := HB.out.size; simp at this; omega) _
    have HB' : Hid (∀ o, Below (w.heap.size + 1) (w.alloc (.cells #[.slice none 0 0, .slice a1 n1 c1, .slice a2 n2 c2] 39)) (wr.alloc o)) := fun o => HB.out.alloc (by have := HB.out.size; simpa using this) _
    have hX : IxM wr B X S n own st σ g := HX.out _ (((Below.refl _ _).alloc (Nat.le_refl _) _).trans (HB.out.mono (by omega)))
    obtain ⟨b0, b1, b2⟩ := cells_of_block ((HB.out.block w.heap.size (by omega)).trans (heap_alloc_new _ _))
    have HC := prefixes_any (a1 := a1) (n1 := n1) (c1 := c1) hX hY hb hm
    obtain ⟨gp, cp, hv, hlt⟩ := row_val (hX.hp b mid hb hm).1 (HP.out mid hm)
    have pc := hX.pC hb hm hv (HP.out mid hm)
    rw [hv] at HC
    have i0 : (0 : Int) < (σ.ps b mid).length := by have := HP.out mid hm; omega
    have i00 : ¬ (σ.ps b mid).length = 0 := by have := HP.out mid hm; omega
    have ie : (((σ.ps b mid).length : Int) == 0) = false := by rw [beq_eq_false_iff_ne]; omega
    unfold ixv at HC
    have HL : Hid (mid < G → (nm (σ.ps b mid) 0).size < wid) := fun h => by rw [← HW.out]; exact HR.out _ _ h hG
    have HU : Hid (G < mid → wid < (nm (σ.ps b mid) 0).size) := fun h => by rw [← HW.out]; exact HR.out _ _ h hm
    have HE : Hid (mid = G → (nm (σ.ps b mid) 0).size = wid) := fun h => by rw [h]; exact HW.out
    generalize nm (σ.ps b mid) 0 = x at *
    generalize (σ.ps b mid).length = L at *
    clear hX hv
    go_wp2_with fail
    refine HC.mono ?_
    rintro e w2 ⟨rfl, o2, rfl⟩
    clear HC
    rcases (show mid = G ∨ mid < G ∨ G < mid from by omega) with hq | hq | hq
    · have hx : x.size = wid := HE.out hq
      have hx2 : ((x.size : Int) == (wid : Int)) = true := by rw [beq_iff_eq]; omega
      subst hq
      go_wp2
      go_ret
      exact ⟨rfl, HBB.out _⟩
    · have hx : (x.size : Int) < wid := by have := HL.out hq; omega
      have hx2 : ((x.size : Int) == (wid : Int)) = false := by rw [beq_eq_false_iff_ne]; omega
      go_wp2
      go_roundw
      case rel => exact ⟨mid + 1, hi, by omega, by omega, by omega, by go_num, rfl, HB'.out _⟩
      case measure => simp [intOf]; omega
    · have hx : ¬ (x.size : Int) < wid := by have := HU.out hq; omega
      have hx2 : ((x.size : Int) == (wid : Int)) = false := by have := HU.out hq; rw [beq_eq_false_iff_ne]; omega
      go_wp2
      go_roundw
      case rel => exact ⟨lo, mid, by omega, by omega, by omega, rfl, rfl, HB'.out _⟩
      case measure => simp [intOf]; omega
end Go.Proofs.Qxb6600942a
