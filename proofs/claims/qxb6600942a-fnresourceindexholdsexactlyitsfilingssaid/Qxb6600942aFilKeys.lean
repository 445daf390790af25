import Derived.Test.Qxb6600942aFilRead
namespace Go.Proofs.Qxb6600942a
open Go.RowKit
set_option linter.unusedVariables false

/-- A filing as a value. -/
def fv (f : Fil) : Value := .agg #[.string f.b, .int .u8 f.l, .string f.p, .int .i64 f.s]

theorem cmpT_sign (a b : ByteArray) : cmpT a b = -1 ∨ cmpT a b = 0 ∨ cmpT a b = 1 := by
  unfold cmpT; split
  · split <;> simp
  · simp

set_option maxRecDepth 100000 in
set_option maxHeartbeats 1000000 in
theorem keys_any (b1 p1 b2 p2 : ByteArray) (l1 s1 l2 s2 : Int) (w : World) (h1 : b1.size ≤ 1048576) (h2 : b2.size ≤ 1048576) (h3 : p1.size ≤ 1048576) (h4 : p2.size ≤ 1048576) :
    Calls Try.prog 35 #[.agg #[.string b1, .int .u8 l1, .string p1, .int .i64 s1], .agg #[.string b2, .int .u8 l2, .string p2, .int .i64 s2]] w fun e w' =>
      e = .returned (.int .i64 (keyCmp ⟨b1, l1, p1, s1⟩ ⟨b2, l2, p2, s2⟩)) ∧ Below w.heap.size w w' := by
  go_enter Try.func35, Try.ntmps35
  go_wp2_with fail
  refine (compare_any b1 b2 _ h1 h2).mono ?_
  rintro e w' ⟨rfl, m, rfl⟩
  obtain ⟨c, hc⟩ : ∃ c, c = cmpT b1 b2 := ⟨_, rfl⟩
  rw [← hc]
  by_cases hz : c = 0
  · have HZ : Hid (cmpT b1 b2 = 0) := hc.symm.trans hz
    subst hz
    clear hc
    rcases (show l1 < l2 ∨ l2 < l1 ∨ l1 = l2 from by omega) with hl | hl | hl
    · have HK : Hid (keyCmp ⟨b1, l1, p1, s1⟩ ⟨b2, l2, p2, s2⟩ = -1) := by show _ = _; simp only [keyCmp, HZ.out]; rw [if_neg (by simp), if_pos (by omega), if_pos hl]
      have hq : (l1 == l2) = false := by simp; omega
      go_wp2
      go_ret
      exact ⟨ret_int HK.out.symm, below_drewN (((Below.refl _ _).alloc (Nat.le_refl _) _).alloc (by simp) _) _⟩
    · have HK : Hid (keyCmp ⟨b1, l1, p1, s1⟩ ⟨b2, l2, p2, s2⟩ = 1) := by show _ = _; simp only [keyCmp, HZ.out]; rw [if_neg (by simp), if_pos (by omega), if_neg (by omega)]
      have hq : (l1 == l2) = false := by simp; omega
      have hnl : ¬ l1 < l2 := by omega
      go_wp2
      go_ret
      exact ⟨ret_int HK.out.symm, below_drewN (((Below.refl _ _).alloc (Nat.le_refl _) _).alloc (by simp) _) _⟩
    · subst hl
      rcases (show p1.size < p2.size ∨ p2.size < p1.size ∨ p1.size = p2.size from by omega) with hp | hp | hp
      · have HK : Hid (keyCmp ⟨b1, l1, p1, s1⟩ ⟨b2, l1, p2, s2⟩ = -1) := by show _ = _; simp only [keyCmp, HZ.out]; rw [if_neg (by simp), if_neg (by simp), if_pos (by omega), if_pos hp]
        have hq : ((p1.size : Int) == (p2.size : Int)) = false := by simp; omega
        go_wp2
        go_ret
        exact ⟨ret_int HK.out.symm, below_drewN (((Below.refl _ _).alloc (Nat.le_refl _) _).alloc (by simp) _) _⟩
      · have HK : Hid (keyCmp ⟨b1, l1, p1, s1⟩ ⟨b2, l1, p2, s2⟩ = 1) := by show _ = _; simp only [keyCmp, HZ.out]; rw [if_neg (by simp), if_neg (by simp), if_pos (by omega), if_neg (by omega)]
        have hq : ((p1.size : Int) == (p2.size : Int)) = false := by simp; omega
        have hnl : ¬ (p1.size : Int) < p2.size := by omega
        go_wp2
        go_ret
        exact ⟨ret_int HK.out.symm, below_drewN (((Below.refl _ _).alloc (Nat.le_refl _) _).alloc (by simp) _) _⟩
      · have HPE : Hid (p1.size = p2.size) := hp
        have hq : ((p1.size : Int) == (p2.size : Int)) = true := by simp; omega
        clear hp
        go_wp2_with fail
        refine (compare_any p1 p2 _ h3 h4).mono ?_
        rintro e w' ⟨rfl, m2, rfl⟩
        obtain ⟨d, hd⟩ : ∃ d, d = cmpT p1 p2 := ⟨_, rfl⟩
        rw [← hd]
        by_cases hdz : d = 0
        · have HD : Hid (cmpT p1 p2 = 0) := hd.symm.trans hdz
          subst hdz
          clear hd
          rcases (show s1 < s2 ∨ s2 < s1 ∨ s1 = s2 from by omega) with hs | hs | hs
          · have HK : Hid (keyCmp ⟨b1, l1, p1, s1⟩ ⟨b2, l1, p2, s2⟩ = -1) := by show _ = _; simp only [keyCmp, HZ.out, HD.out]; rw [if_neg (by simp), if_neg (by simp), if_neg (by simp; exact HPE.out), if_neg (by simp), if_pos (by omega), if_pos hs]
            have hq2 : (s1 == s2) = false := by simp; omega
            go_wp2
            go_ret
            exact ⟨ret_int HK.out.symm, below_drewN (((Below.refl _ _).alloc (Nat.le_refl _) _).alloc (by simp) _) _⟩
          · have HK : Hid (keyCmp ⟨b1, l1, p1, s1⟩ ⟨b2, l1, p2, s2⟩ = 1) := by show _ = _; simp only [keyCmp, HZ.out, HD.out]; rw [if_neg (by simp), if_neg (by simp), if_neg (by simp; exact HPE.out), if_neg (by simp), if_pos (by omega), if_neg (by omega)]
            have hq2 : (s1 == s2) = false := by simp; omega
            have hnl : ¬ s1 < s2 := by omega
            go_wp2
            go_ret
            exact ⟨ret_int HK.out.symm, below_drewN (((Below.refl _ _).alloc (Nat.le_refl _) _).alloc (by simp) _) _⟩
          · subst hs
            have HK : Hid (keyCmp ⟨b1, l1, p1, s1⟩ ⟨b2, l1, p2, s1⟩ = 0) := by show _ = _; simp only [keyCmp, HZ.out, HD.out]; rw [if_neg (by simp), if_neg (by simp), if_neg (by simp; exact HPE.out), if_neg (by simp), if_neg (by simp)]
            go_wp2
            go_ret
            exact ⟨ret_int HK.out.symm, below_drewN (((Below.refl _ _).alloc (Nat.le_refl _) _).alloc (by simp) _) _⟩
        · have HK : Hid (keyCmp ⟨b1, l1, p1, s1⟩ ⟨b2, l1, p2, s2⟩ = d) := by show _ = _; simp only [keyCmp, HZ.out, ← hd]; rw [if_neg (by simp), if_neg (by simp), if_neg (by simp; exact HPE.out), if_pos hdz]
          have hq2 : (d == 0) = false := by simpa using hdz
          clear hd
          go_wp2
          go_ret
          exact ⟨ret_int HK.out.symm, below_drewN (((Below.refl _ _).alloc (Nat.le_refl _) _).alloc (by simp) _) _⟩
  · have HK : Hid (keyCmp ⟨b1, l1, p1, s1⟩ ⟨b2, l2, p2, s2⟩ = c) := by show _ = _; simp only [keyCmp, ← hc]; rw [if_pos hz]
    have hq : (c == 0) = false := by simpa using hz
    clear hc
    go_wp2
    go_ret
    exact ⟨ret_int HK.out.symm, below_drewN (((Below.refl _ _).alloc (Nat.le_refl _) _).alloc (by simp) _) _⟩
end Go.Proofs.Qxb6600942a
