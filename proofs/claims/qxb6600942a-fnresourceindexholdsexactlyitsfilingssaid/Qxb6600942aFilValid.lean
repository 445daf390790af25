import Derived.Test.Qxb6600942aFilKeys
import Derived.Deep.RegionHeld3
namespace Go.Proofs.Qxb6600942a
open Go.RowKit
set_option linter.unusedVariables false

/-- The first k filings are as validFilings asks. -/
structure ValidTo (fs : List Fil) (k : Nat) : Prop where
  lev : ∀ j, j < k → (fl fs j).l = 1 ∨ (fl fs j).l = 2
  pre : ∀ j, j < k → (fl fs j).l = 1 → (fl fs j).p = ByteArray.empty
  ord : ∀ j, j + 1 < k → keyCmp (fl fs j) (fl fs (j + 1)) < 0
theorem ValidTo.zero (fs : List Fil) : ValidTo fs 0 := ⟨fun j h => by omega, fun j h => by omega, fun j h => by omega⟩
theorem ValidTo.succ {fs : List Fil} {k : Nat} (h : ValidTo fs k) (h1 : (fl fs k).l = 1 ∨ (fl fs k).l = 2) (h2 : (fl fs k).l = 1 → (fl fs k).p = ByteArray.empty) (h3 : ∀ j, j + 1 = k → keyCmp (fl fs j) (fl fs k) < 0) : ValidTo fs (k + 1) := by
  refine ⟨fun j hj => ?_, fun j hj => ?_, fun j hj => ?_⟩
  · by_cases e : j = k
    · rw [e]; exact h1
    · exact h.lev j (by omega)
  · by_cases e : j = k
    · rw [e]; exact h2
    · exact h.pre j (by omega)
  · by_cases e : j + 1 = k
    · rw [e]; exact h3 j e
    · exact h.ord j (by omega)
theorem ValidTo.valid {fs : List Fil} (h : ValidTo fs fs.length) : Valid fs := ⟨h.lev, h.pre, h.ord⟩
theorem empty_iff (s : ByteArray) : s.toList.isEmpty = true ↔ s = ByteArray.empty := by
  rw [List.isEmpty_iff, ByteArray.toList_eq]
  constructor
  · intro h; exact data_inj (by rw [h]; rfl)
  · intro h; rw [h]; rfl

set_option maxRecDepth 100000 in
set_option maxHeartbeats 2000000 in
theorem valid_any (a : Option Addr) (n cap : Nat) (fs : List Fil) (w : World) (hS : Fils w a n cap fs) (hn : n + flen fs ≤ 1048576) :
    Calls Try.prog 16 #[.slice a n cap] w fun e w' => (e = .returned (.bool false) ∨ (e = .returned (.bool true) ∧ Hid (Valid fs))) ∧ Below w.heap.size w w' := by
  have HS : Hid (Fils w a n cap fs) := hS
  have HZ : Hid (∀ j, (fl fs j).b.size ≤ 1048576 ∧ (fl fs j).p.size ≤ 1048576) := fun j => by have := fl_size fs j; omega
  have hn' : n ≤ 1048576 := by omega
  clear hS hn
  go_enter Try.func16, Try.ntmps16
  go_wp2
  go_loopw [3] (fun i wr => ∃ k : Nat, k ≤ n ∧ i = .int .i64 k ∧ Hid (ValidTo fs k) ∧ Below w.heap.size w wr) (fun i _ => n - (intOf i).toNat)
  case atStart => exact ⟨0, by omega, rfl, ValidTo.zero fs, Below.refl _ _⟩
  case round =>
    obtain ⟨k, hk, rfl, HV, hbr⟩ := hrel
    by_cases hlt : k < n
    · by_cases hkz : k = 0
      · subst hkz
        obtain ⟨yb, yo, rfl, F1, hyl⟩ := HS.out.at hlt
        obtain ⟨c0, c1, c2, c3⟩ := F1.of_block (hbr.block yb hyl)
        have z1 := HZ.out 0
        have HV1 : Hid ((fl fs 0).l = 1 ∨ (fl fs 0).l = 2 → ((fl fs 0).l = 1 → (fl fs 0).p = ByteArray.empty) → (∀ j, j + 1 = 0 → keyCmp (fl fs j) (fl fs 0) < 0) → ValidTo fs (0 + 1)) := fun a b c => HV.out.succ a b c
        generalize fl fs 0 = f1 at *
        obtain ⟨b1, l1, p1, s1⟩ := f1
        dsimp only at c0 c1 c2 c3 z1 HV1
        simp only [Nat.zero_mul, Nat.add_zero] at c0 c1 c2 c3
        have i1 : (0 : Int) < n := by omega
        clear F1
        by_cases hl1 : l1 = 1
        · subst hl1
          by_cases hp : p1.toList.isEmpty = true
          · have HL : Hid ((1 : Int) = 1 ∨ (1 : Int) = 2) := .inl rfl
            have HPP : Hid ((1 : Int) = 1 → p1 = ByteArray.empty) := fun _ => (empty_iff p1).1 hp
            have hgd : decide ((0 : Int) < 0) = false := by decide
            have HV2 : Hid (ValidTo fs (0 + 1)) := HV1.out HL.out HPP.out (fun j hj => by omega)
            go_wp2
            go_quiet (fail)
            go_wp2
            go_roundw
            case rel => exact ⟨0 + 1, by omega, by go_num, HV2, below_drewN hbr _⟩
            case measure => simp [intOf]; omega
          · have hp' : p1.toList.isEmpty = false := by simpa using hp
            go_wp2
            go_ret
            exact ⟨.inl rfl, hbr⟩
        · by_cases hl2 : l1 = 2
          · subst hl2
            have HL : Hid ((2 : Int) = 1 ∨ (2 : Int) = 2) := .inr rfl
            have HPP : Hid ((2 : Int) = 1 → p1 = ByteArray.empty) := fun h => by omega
            have hgd : decide ((0 : Int) < 0) = false := by decide
            have HV2 : Hid (ValidTo fs (0 + 1)) := HV1.out HL.out HPP.out (fun j hj => by omega)
            go_wp2
            go_quiet (fail)
            go_wp2
            go_roundw
            case rel => exact ⟨0 + 1, by omega, by go_num, HV2, below_drewN hbr _⟩
            case measure => simp [intOf]; omega
          · have q1 : (l1 == 1) = false := by simpa using hl1
            have q2 : (l1 == 2) = false := by simpa using hl2
            have q3 : (l1 != 1) = true := by simpa using hl1
            have q4 : (l1 != 2) = true := by simpa using hl2
            go_wp2
            go_ret
            exact ⟨.inl rfl, hbr⟩
      · obtain ⟨k0, HK0⟩ : ∃ k0, Hid (k = k0 + 1) := ⟨k - 1, (show _ = _ by omega)⟩
        have hk0n : k0 < n := by have := HK0.out; omega
        have hri : (k : Int) - 1 = (k0 : Int) := by have := HK0.out; omega
        have hw1 : wrap64 (k0 : Int) = (k0 : Int) := by unfold wrap64; omega
        have hw2 : IntKind.i64.wrap (k0 : Int) = (k0 : Int) := by rw [IntKind.wrap_i64]; omega
        have hn0 : (0 : Int) ≤ (k0 : Int) := by omega
        have hk00 : 0 < k := by have := HK0.out; omega
        obtain ⟨yb, yo, rfl, F0, F1, hyl⟩ := HS.out.two (i := k0) (j := k) (by have := HK0.out; omega) hlt
        have hyw : yb < wr.heap.size := Nat.lt_of_lt_of_le hyl hbr.size
        obtain ⟨d0, d1, d2, d3⟩ := F0.of_block (hbr.block yb hyl)
        obtain ⟨c0, c1, c2, c3⟩ := F1.of_block (hbr.block yb hyl)
        have z0 := HZ.out k0
        have z1 := HZ.out k
        have HV1 : Hid ((fl fs k).l = 1 ∨ (fl fs k).l = 2 → ((fl fs k).l = 1 → (fl fs k).p = ByteArray.empty) → (∀ j, j + 1 = k → keyCmp (fl fs j) (fl fs k) < 0) → ValidTo fs (k + 1)) := fun a b c => HV.out.succ a b c
        have HK : Hid (∀ j, j + 1 = k → fl fs j = fl fs k0) := fun j hj => by rw [show j = k0 from by have := HK0.out; omega]
        generalize fl fs k0 = f0 at *
        generalize fl fs k = f1 at *
        obtain ⟨b0, l0, p0, s0⟩ := f0
        obtain ⟨b1, l1, p1, s1⟩ := f1
        dsimp only at d0 d1 d2 d3 c0 c1 c2 c3 z0 z1 HV1
        have i1 : (k : Int) < n := by omega
        clear F0 F1
        by_cases hl1 : l1 = 1
        · subst hl1
          by_cases hp : p1.toList.isEmpty = true
          · have HL : Hid ((1 : Int) = 1 ∨ (1 : Int) = 2) := .inl rfl
            have HPP : Hid ((1 : Int) = 1 → p1 = ByteArray.empty) := fun _ => (empty_iff p1).1 hp
            have hgd : (0 : Int) < (k : Int) := by omega
            have j0 : (k0 : Int) < n := by omega
            by_cases hkc : keyCmp ⟨b0, l0, p0, s0⟩ ⟨b1, 1, p1, s1⟩ < 0
            · have HV2 : Hid (ValidTo fs (k + 1)) := HV1.out HL.out HPP.out (fun j hj => by rw [HK.out j hj]; exact hkc)
              have dk : decide (0 ≤ keyCmp ⟨b0, l0, p0, s0⟩ ⟨b1, 1, p1, s1⟩) = false := decide_eq_false (by omega)
              go_wp2
              go_region_held3 (fun w' => w'.cell? ⟨yb, yo + k0 * 4, none⟩ = some (.string b0) ∧ w'.cell? ⟨yb, yo + k0 * 4 + 1, none⟩ = some (.int .u8 l0) ∧ w'.cell? ⟨yb, yo + k0 * 4 + 2, none⟩ = some (.string p0) ∧ w'.cell? ⟨yb, yo + k0 * 4 + 3, none⟩ = some (.int .i64 s0) ∧ w'.cell? ⟨yb, yo + k * 4, none⟩ = some (.string b1) ∧ w'.cell? ⟨yb, yo + k * 4 + 1, none⟩ = some (.int .u8 1) ∧ w'.cell? ⟨yb, yo + k * 4 + 2, none⟩ = some (.string p1) ∧ w'.cell? ⟨yb, yo + k * 4 + 3, none⟩ = some (.int .i64 s1)) (simp [*]) ((go_at_call 35; refine (keys_any b0 p0 b1 p1 l0 s0 1 s1 _ z0.1 z1.1 z0.2 z1.2).mono ?_; rintro e w5 ⟨rfl, hb5⟩; have hcw := fun o => hb5.cell (p := ⟨yb, o, none⟩) (by simpa using hyw)))
              go_wp2
              go_roundw
              case rel => exact ⟨k + 1, by omega, by go_num, HV2, hbr.drew.trans (hb5.mono hbr.size)⟩
              case measure => simp [intOf]; omega
            · have dk : 0 ≤ keyCmp ⟨b0, l0, p0, s0⟩ ⟨b1, 1, p1, s1⟩ := by omega
              go_wp2
              go_region_held3 (fun w' => w'.cell? ⟨yb, yo + k0 * 4, none⟩ = some (.string b0) ∧ w'.cell? ⟨yb, yo + k0 * 4 + 1, none⟩ = some (.int .u8 l0) ∧ w'.cell? ⟨yb, yo + k0 * 4 + 2, none⟩ = some (.string p0) ∧ w'.cell? ⟨yb, yo + k0 * 4 + 3, none⟩ = some (.int .i64 s0) ∧ w'.cell? ⟨yb, yo + k * 4, none⟩ = some (.string b1) ∧ w'.cell? ⟨yb, yo + k * 4 + 1, none⟩ = some (.int .u8 1) ∧ w'.cell? ⟨yb, yo + k * 4 + 2, none⟩ = some (.string p1) ∧ w'.cell? ⟨yb, yo + k * 4 + 3, none⟩ = some (.int .i64 s1)) (simp [*]) ((go_at_call 35; refine (keys_any b0 p0 b1 p1 l0 s0 1 s1 _ z0.1 z1.1 z0.2 z1.2).mono ?_; rintro e w5 ⟨rfl, hb5⟩; have hcw := fun o => hb5.cell (p := ⟨yb, o, none⟩) (by simpa using hyw)))
              go_wp2
              go_ret
              exact ⟨.inl rfl, hbr.drew.trans (hb5.mono hbr.size)⟩
          · have hp' : p1.toList.isEmpty = false := by simpa using hp
            go_wp2
            go_ret
            exact ⟨.inl rfl, hbr⟩
        · by_cases hl2 : l1 = 2
          · subst hl2
            have HL : Hid ((2 : Int) = 1 ∨ (2 : Int) = 2) := .inr rfl
            have HPP : Hid ((2 : Int) = 1 → p1 = ByteArray.empty) := fun h => by omega
            have hgd : (0 : Int) < (k : Int) := by omega
            have j0 : (k0 : Int) < n := by omega
            by_cases hkc : keyCmp ⟨b0, l0, p0, s0⟩ ⟨b1, 2, p1, s1⟩ < 0
            · have HV2 : Hid (ValidTo fs (k + 1)) := HV1.out HL.out HPP.out (fun j hj => by rw [HK.out j hj]; exact hkc)
              have dk : decide (0 ≤ keyCmp ⟨b0, l0, p0, s0⟩ ⟨b1, 2, p1, s1⟩) = false := decide_eq_false (by omega)
              go_wp2
              go_region_held3 (fun w' => w'.cell? ⟨yb, yo + k0 * 4, none⟩ = some (.string b0) ∧ w'.cell? ⟨yb, yo + k0 * 4 + 1, none⟩ = some (.int .u8 l0) ∧ w'.cell? ⟨yb, yo + k0 * 4 + 2, none⟩ = some (.string p0) ∧ w'.cell? ⟨yb, yo + k0 * 4 + 3, none⟩ = some (.int .i64 s0) ∧ w'.cell? ⟨yb, yo + k * 4, none⟩ = some (.string b1) ∧ w'.cell? ⟨yb, yo + k * 4 + 1, none⟩ = some (.int .u8 2) ∧ w'.cell? ⟨yb, yo + k * 4 + 2, none⟩ = some (.string p1) ∧ w'.cell? ⟨yb, yo + k * 4 + 3, none⟩ = some (.int .i64 s1)) (simp [*]) ((go_at_call 35; refine (keys_any b0 p0 b1 p1 l0 s0 2 s1 _ z0.1 z1.1 z0.2 z1.2).mono ?_; rintro e w5 ⟨rfl, hb5⟩; have hcw := fun o => hb5.cell (p := ⟨yb, o, none⟩) (by simpa using hyw)))
              go_wp2
              go_roundw
              case rel => exact ⟨k + 1, by omega, by go_num, HV2, hbr.drew.trans (hb5.mono hbr.size)⟩
              case measure => simp [intOf]; omega
            · have dk : 0 ≤ keyCmp ⟨b0, l0, p0, s0⟩ ⟨b1, 2, p1, s1⟩ := by omega
              go_wp2
              go_region_held3 (fun w' => w'.cell? ⟨yb, yo + k0 * 4, none⟩ = some (.string b0) ∧ w'.cell? ⟨yb, yo + k0 * 4 + 1, none⟩ = some (.int .u8 l0) ∧ w'.cell? ⟨yb, yo + k0 * 4 + 2, none⟩ = some (.string p0) ∧ w'.cell? ⟨yb, yo + k0 * 4 + 3, none⟩ = some (.int .i64 s0) ∧ w'.cell? ⟨yb, yo + k * 4, none⟩ = some (.string b1) ∧ w'.cell? ⟨yb, yo + k * 4 + 1, none⟩ = some (.int .u8 2) ∧ w'.cell? ⟨yb, yo + k * 4 + 2, none⟩ = some (.string p1) ∧ w'.cell? ⟨yb, yo + k * 4 + 3, none⟩ = some (.int .i64 s1)) (simp [*]) ((go_at_call 35; refine (keys_any b0 p0 b1 p1 l0 s0 2 s1 _ z0.1 z1.1 z0.2 z1.2).mono ?_; rintro e w5 ⟨rfl, hb5⟩; have hcw := fun o => hb5.cell (p := ⟨yb, o, none⟩) (by simpa using hyw)))
              go_wp2
              go_ret
              exact ⟨.inl rfl, hbr.drew.trans (hb5.mono hbr.size)⟩
          · have q1 : (l1 == 1) = false := by simpa using hl1
            have q2 : (l1 == 2) = false := by simpa using hl2
            have q3 : (l1 != 1) = true := by simpa using hl1
            have q4 : (l1 != 2) = true := by simpa using hl2
            go_wp2
            go_ret
            exact ⟨.inl rfl, hbr⟩
    · obtain rfl : k = n := by omega
      go_wp2
      go_ret
      have hv : Hid (Valid fs) := by
        have := HV.out
        rw [← HS.out.1] at this
        exact this.valid
      exact ⟨.inr ⟨rfl, hv⟩, hbr⟩
end Go.Proofs.Qxb6600942a
