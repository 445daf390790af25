import Derived.Test.Qxb6600942aGrowPlain
import Derived.Test.Qxb6600942aCompare
namespace Go.Proofs.Qxb6600942a
open Go.RowKit
set_option linter.unusedVariables false

/-- The two rows of the sort: s at block g, buf at block h. -/
structure Two (w0 w : World) (g h n : Nat) (s b : Nat → ByteArray) : Prop where
  ne : g ≠ h
  os : w.ownsRow g 9 1 (.slice (some ⟨g, 0, none⟩) n n) n (row s n)
  ob : w.ownsRow g 9 1 (.slice (some ⟨h, 0, none⟩) n n) n (row b n)
  below : Below g w0 w
  gh : g < h
theorem row_put (b : Nat → ByteArray) (n k : Nat) (v : ByteArray) : (row b n).set k (.string v) = row (put b k v) n := row_set b n k v
theorem Two.sCell {w0 w : World} {g h n : Nat} {s b : Nat → ByteArray} (t : Two w0 w g h n s b) {j : Nat} (hj : j < n) : w.cell? ⟨g, j, none⟩ = some (.string (s j)) := by rw [t.os.cellAt j (by omega), row_get _ hj]
theorem Two.bCell {w0 w : World} {g h n : Nat} {s b : Nat → ByteArray} (t : Two w0 w g h n s b) {j : Nat} (hj : j < n) : w.cell? ⟨h, j, none⟩ = some (.string (b j)) := by rw [t.ob.cellAt j (by omega), row_get _ hj]
theorem Two.drewN {w0 w : World} {g h n : Nat} {s b : Nat → ByteArray} (t : Two w0 w g h n s b) (m : Nat) : Two w0 (w.drewN m) g h n s b := ⟨t.ne, t.os, t.ob, below_drewN t.below m, t.gh⟩
theorem Two.putB {w0 w : World} {g h n : Nat} {s b : Nat → ByteArray} (t : Two w0 w g h n s b) (k : Nat) (v : ByteArray) : Two w0 (w.setCell ⟨h, k, none⟩ (.string v)) g h n s (put b k v) := by
  have st := t.ob.stored k (.string v)
  rw [row_put] at st
  refine ⟨t.ne, t.os.kept st.2 (.inr ?_), st.1, t.below.setCell (Nat.le_of_lt t.gh) _, t.gh⟩
  simp [Value.ownBlock, t.ne]
theorem Two.putS {w0 w : World} {g h n : Nat} {s b : Nat → ByteArray} (t : Two w0 w g h n s b) (k : Nat) (v : ByteArray) : Two w0 (w.setCell ⟨g, k, none⟩ (.string v)) g h n (put s k v) b := by
  have st := t.os.stored k (.string v)
  rw [row_put] at st
  refine ⟨t.ne, st.1, t.ob.kept st.2 (.inr ?_), t.below.setCell (Nat.le_refl _) _, t.gh⟩
  simp [Value.ownBlock, t.ne.symm]

/-- Each name is short. -/
def Short (n : Nat) (s : Nat → ByteArray) : Prop := ∀ j, j < n → (s j).size ≤ 1048576

/- PLAIN -/
theorem short_of_perm {n : Nat} {s b : Nat → ByteArray} (h : Short n s) (hp : (seg b 0 n).Perm (seg s 0 n)) : Short n b := by
  intro j hj
  have hm : b j ∈ seg b 0 n := List.mem_map.2 ⟨j, by rw [List.mem_range'_1]; omega, rfl⟩
  have hm2 := hp.mem_iff.1 hm
  obtain ⟨i, hi, e⟩ := List.mem_map.1 hm2
  rw [List.mem_range'_1] at hi
  rw [← e]; exact h i (by omega)
/-- What the copying back has done so far. -/
theorem copy_put {s0 b s : Nat → ByteArray} {k : Nat} (h : ∀ t, t < k → s t = b t) : ∀ t, t < k + 1 → put s k (b k) t = b t := by
  intro t ht
  by_cases e : t = k
  · rw [e, put_at]
  · rw [put_ne s _ e]; exact h t (by omega)

set_option maxRecDepth 100000 in
set_option maxHeartbeats 2000000 in
/-- sortTexts. -/
theorem sort_any (g n : Nat) (f : Nat → ByteArray) (w : World) (hn : n ≤ 65536) (hg : w.ownsRow g 9 1 (.slice (some ⟨g, 0, none⟩) n n) n (row f n)) (hsh : Short n f) :
    Calls Try.prog 12 #[.slice (some ⟨g, 0, none⟩) n n] w fun e w' => e = .returned (.tuple #[]) ∧ ∃ f' : Nat → ByteArray, Strs w' (some ⟨g, 0, none⟩) n n ((List.range n).map f') ∧ SortedOn f' 0 n ∧ (seg f' 0 n).Perm (seg f 0 n) ∧ Below g w w' := by
  obtain ⟨i0, hi, hz0, hz1, hz2⟩ := info_parts Try.info9
  have HG : Hid (w.ownsRow g 9 1 (.slice (some ⟨g, 0, none⟩) n n) n (row f n)) := hg
  have hgl : g < w.heap.size := own_lt hg
  have HSH : Hid (Short n f) := hsh
  clear hg hsh
  go_enter Try.func12, Try.ntmps12
  go_wp2_with (at_make; refine wpList_make_full _ rfl _ _ 22 rfl g 9 i0 (.string ByteArray.empty) 1 Try.underlying22 hi hz0 hz1 .i64 .i64 _ _ n rfl rfl rfl rfl (by rw [hz2]; omega) (by unfold maxLen; omega) (Nat.le_of_lt hgl) ?_; intro w1 hown1 hg1)
  rw [show (Value.string ByteArray.empty).cells = #[.string ByteArray.empty] from rfl, row_made n] at hown1
  have T1 : Two w w1 g w.heap.size n f (fun _ => ByteArray.empty) := ⟨by omega, HG.out.kept hg1 (.inr (by simp [Value.ownBlock])), hown1, (Below.refl _ _).grown hg1 (Nat.le_of_lt hgl) (fun k h => by simp at h), hgl⟩
  obtain ⟨h, hh⟩ : ∃ h, h = w.heap.size := ⟨_, rfl⟩
  rw [← hh] at T1 ⊢
  have HT1 : Hid (Two w w1 g h n f (fun _ => ByteArray.empty)) := T1
  clear T1 hown1 hg1 HG hgl hh
  go_loopw [4] (fun v4 wr => ∃ (wd : Nat) (s b : Nat → ByteArray), 1 ≤ wd ∧ wd ≤ 2 * n + 1 ∧ v4 = .int .i64 wd ∧ Hid (Two w wr g h n s b) ∧ Hid (Runs s n wd) ∧ Hid ((seg s 0 n).Perm (seg f 0 n)) ∧ Hid (Short n s)) (fun v4 _ => n - (intOf v4).toNat)
  case atStart => exact ⟨1, f, _, by omega, by omega, rfl, HT1, Runs.one f n, List.Perm.refl _, HSH⟩
  case round =>
    clear HT1 HSH
    obtain ⟨wd, s, b0, hw1, hw2, rfl, HT0, HR, HPM, HSH⟩ := hrel
    by_cases hwn : wd < n
    · go_wp2
      go_loopw [5] (fun v5 wr => ∃ (lo m : Nat) (b : Nat → ByteArray), v5 = .int .i64 lo ∧ lo ≤ 3 * n ∧ Hid (Two w wr g h n s b) ∧ Hid (Merged s b n wd m lo)) (fun v5 _ => n - (intOf v5).toNat)
      case atStart => exact ⟨0, 0, b0, rfl, by omega, HT0, Merged.start s b0 n wd⟩
      case round =>
        clear HT0
        obtain ⟨lo, m, b, rfl, hlo, HT, HM⟩ := hrel
        by_cases hlt : lo < n
        · by_cases c1 : lo + 2 * wd ≤ n
          · have dA : decide ((n : Int) < (lo : Int) + (wd : Int)) = false := decide_eq_false (by omega)
            have dB : decide ((n : Int) < (lo : Int) + 2 * (wd : Int)) = false := decide_eq_false (by omega)
            have hrr := HR.out.two (mid := lo + wd) (hi := lo + 2 * wd) HM.out.hlo (by omega) (by omega)
            have HS1 : Hid (SortedOn s lo (lo + wd)) := hrr.1
            have HS2 : Hid (SortedOn s (lo + wd) (lo + 2 * wd)) := hrr.2
            clear hrr
            go_wp2
            go_loopw [8, 9, 10] (fun vi vj vk wr => ∃ (i j k : Nat) (b' : Nat → ByteArray), vi = .int .i64 i ∧ vj = .int .i64 j ∧ vk = .int .i64 k ∧ lo ≤ i ∧ i ≤ lo + wd ∧ lo + wd ≤ j ∧ j ≤ lo + 2 * wd ∧ k ≤ lo + 2 * wd ∧ lo ≤ k ∧ Hid (Two w wr g h n s b') ∧ Hid (Merging s b' lo (lo + wd) (lo + 2 * wd) i j k) ∧ Hid (∀ t, t < lo → b' t = b t)) (fun _ _ vk _ => lo + 2 * wd - (intOf vk).toNat)
            case atStart => exact ⟨lo, lo + wd, lo, b, rfl, by go_num, rfl, by omega, by omega, by omega, by omega, by omega, by omega, HT, Merging.start (by omega) (by omega), (fun t _ => rfl)⟩
            case round =>
              clear HT
              obtain ⟨i, j, k, b', rfl, rfl, rfl, q1, q2, q3, q4, q5, q6, HT, HMM, HBL⟩ := hrel
              by_cases hk : k < lo + 2 * wd
              · have hkn : k < n := by omega
                have hkk := HMM.out.hk
                have cb := HT.out.bCell hkn
                have fb := HT.out.ob.frozenAt k
                have hkd : (k : Int) < ((lo : Int) + 2 * (wd : Int)) := by omega
                by_cases hi : i < lo + wd
                · have cs := HT.out.sCell (j := i) (by omega)
                  have hid : (i : Int) < ((lo : Int) + (wd : Int)) := by omega
                  by_cases hj : lo + 2 * wd ≤ j
                  · have HM' : Hid (Merging s (put b' k (s i)) lo (lo + wd) (lo + 2 * wd) (i + 1) j (k + 1)) := HMM.out.left HS1.out HS2.out hi (.inl hj)
                    have HTT : Hid (∀ m, Two w ((wr.drewN m).setCell ⟨h, k, none⟩ (.string (s i))) g h n s (put b' k (s i))) := fun m => (HT.out.drewN m).putB k (s i)
                    have HBL' : Hid (∀ t, t < lo → put b' k (s i) t = b t) := put_below HBL.out q6
                    have hjd : ((lo : Int) + 2 * (wd : Int)) ≤ (j : Int) := by omega
                    clear hkk
                    go_wp2
                    go_quiet (fail)
                    go_wp2
                    go_roundw
                    case rel => exact ⟨i + 1, j, k + 1, _, by go_num, by go_num, by go_num, by omega, by omega, by omega, by omega, by omega, by omega, HTT.out _, HM', HBL'⟩
                    case measure => simp [intOf]; omega
                  · have cj := HT.out.sCell (j := j) (by omega)
                    have hjd : decide (((lo : Int) + 2 * (wd : Int)) ≤ (j : Int)) = false := decide_eq_false (by omega)
                    have hjn : decide (lo + 2 * wd ≤ j) = false := decide_eq_false (by omega)
                    have z1 := HSH.out i (by omega)
                    have z2 := HSH.out j (by omega)
                    by_cases hle : le (s i) (s j) = true
                    · have HM' : Hid (Merging s (put b' k (s i)) lo (lo + wd) (lo + 2 * wd) (i + 1) j (k + 1)) := HMM.out.left HS1.out HS2.out hi (.inr hle)
                      have HTT : Hid (∀ m, Two w ((wr.drewN m).setCell ⟨h, k, none⟩ (.string (s i))) g h n s (put b' k (s i))) := fun m => (HT.out.drewN m).putB k (s i)
                      have HBL' : Hid (∀ t, t < lo → put b' k (s i) t = b t) := put_below HBL.out q6
                      have hcd : cmpT (s i) (s j) ≤ 0 := cmpT_le.2 hle
                      clear hkk hle
                      go_wp2
                      go_quiet ((go_at_call 22; exact Calls.quiet_of (compare_any _ _ _ z1 z2)))
                      go_wp2
                      go_roundw
                      case rel => exact ⟨i + 1, j, k + 1, _, by go_num, by go_num, by go_num, by omega, by omega, by omega, by omega, by omega, by omega, HTT.out _, HM', HBL'⟩
                      case measure => simp [intOf]; omega
                    · have hlf : le (s j) (s i) = true := le_of_not (by simpa using hle)
                      have HM' : Hid (Merging s (put b' k (s j)) lo (lo + wd) (lo + 2 * wd) i (j + 1) (k + 1)) := HMM.out.right HS1.out HS2.out (by omega) (.inr hlf)
                      have HTT : Hid (∀ m, Two w ((wr.drewN m).setCell ⟨h, k, none⟩ (.string (s j))) g h n s (put b' k (s j))) := fun m => (HT.out.drewN m).putB k (s j)
                      have HBL' : Hid (∀ t, t < lo → put b' k (s j) t = b t) := put_below HBL.out q6
                      have hcd : decide (cmpT (s i) (s j) ≤ 0) = false := decide_eq_false (fun h => hle (cmpT_le.1 h))
                      clear hkk hle hlf
                      go_wp2
                      go_quiet ((go_at_call 22; exact Calls.quiet_of (compare_any _ _ _ z1 z2)))
                      go_wp2
                      go_roundw
                      case rel => exact ⟨i, j + 1, k + 1, _, by go_num, by go_num, by go_num, by omega, by omega, by omega, by omega, by omega, by omega, HTT.out _, HM', HBL'⟩
                      case measure => simp [intOf]; omega
                · have cj := HT.out.sCell (j := j) (by omega)
                  have hid : decide ((i : Int) < ((lo : Int) + (wd : Int))) = false := decide_eq_false (by omega)
                  have hin : decide (i < lo + wd) = false := decide_eq_false (by omega)
                  have HM' : Hid (Merging s (put b' k (s j)) lo (lo + wd) (lo + 2 * wd) i (j + 1) (k + 1)) := HMM.out.right HS1.out HS2.out (by omega) (.inl (by omega))
                  have HTT : Hid (∀ m, Two w ((wr.drewN m).setCell ⟨h, k, none⟩ (.string (s j))) g h n s (put b' k (s j))) := fun m => (HT.out.drewN m).putB k (s j)
                  have HBL' : Hid (∀ t, t < lo → put b' k (s j) t = b t) := put_below HBL.out q6
                  have hjd : (j : Int) < n := by omega
                  have hjh : j < lo + 2 * wd := by omega
                  clear hkk
                  go_wp2
                  go_quiet (fail)
                  go_wp2
                  go_roundw
                  case rel => exact ⟨i, j + 1, k + 1, _, by go_num, by go_num, by go_num, by omega, by omega, by omega, by omega, by omega, by omega, HTT.out _, HM', HBL'⟩
                  case measure => simp [intOf]; omega
              · have hd := HMM.out.done (by omega)
                have HM2 : Hid (Merged s b' n wd (m + 1) (lo + 2 * wd)) := HM.out.step hlt (by omega) (by omega) HBL.out hd.1 hd.2
                clear hd
                go_wp2
                go_roundw
                case rel => exact ⟨lo + 2 * wd, m + 1, b', by go_num, by omega, HT, HM2⟩
                case measure => simp [intOf]; omega
          · by_cases c2 : lo + wd ≤ n
            · have dA : decide ((n : Int) < (lo : Int) + (wd : Int)) = false := decide_eq_false (by omega)
              have dB : decide ((n : Int) < (lo : Int) + 2 * (wd : Int)) = true := decide_eq_true (by omega)
              have hrr := HR.out.two (mid := lo + wd) (hi := n) HM.out.hlo (by omega) (by omega)
              have HS1 : Hid (SortedOn s lo (lo + wd)) := hrr.1
              have HS2 : Hid (SortedOn s (lo + wd) n) := hrr.2
              clear hrr
              go_wp2
              go_loopw [8, 9, 10] (fun vi vj vk wr => ∃ (i j k : Nat) (b' : Nat → ByteArray), vi = .int .i64 i ∧ vj = .int .i64 j ∧ vk = .int .i64 k ∧ lo ≤ i ∧ i ≤ lo + wd ∧ lo + wd ≤ j ∧ j ≤ n ∧ k ≤ n ∧ lo ≤ k ∧ Hid (Two w wr g h n s b') ∧ Hid (Merging s b' lo (lo + wd) (n) i j k) ∧ Hid (∀ t, t < lo → b' t = b t)) (fun _ _ vk _ => n - (intOf vk).toNat)
              case atStart => exact ⟨lo, lo + wd, lo, b, rfl, by go_num, rfl, by omega, by omega, by omega, by omega, by omega, by omega, HT, Merging.start (by omega) (by omega), (fun t _ => rfl)⟩
              case round =>
                clear HT
                obtain ⟨i, j, k, b', rfl, rfl, rfl, q1, q2, q3, q4, q5, q6, HT, HMM, HBL⟩ := hrel
                by_cases hk : k < n
                · have hkn : k < n := by omega
                  have hkk := HMM.out.hk
                  have cb := HT.out.bCell hkn
                  have fb := HT.out.ob.frozenAt k
                  have hkd : (k : Int) < (n : Int) := by omega
                  by_cases hi : i < lo + wd
                  · have cs := HT.out.sCell (j := i) (by omega)
                    have hid : (i : Int) < ((lo : Int) + (wd : Int)) := by omega
                    by_cases hj : n ≤ j
                    · have HM' : Hid (Merging s (put b' k (s i)) lo (lo + wd) (n) (i + 1) j (k + 1)) := HMM.out.left HS1.out HS2.out hi (.inl hj)
                      have HTT : Hid (∀ m, Two w ((wr.drewN m).setCell ⟨h, k, none⟩ (.string (s i))) g h n s (put b' k (s i))) := fun m => (HT.out.drewN m).putB k (s i)
                      have HBL' : Hid (∀ t, t < lo → put b' k (s i) t = b t) := put_below HBL.out q6
                      have hjd : (n : Int) ≤ (j : Int) := by omega
                      clear hkk
                      go_wp2
                      go_quiet (fail)
                      go_wp2
                      go_roundw
                      case rel => exact ⟨i + 1, j, k + 1, _, by go_num, by go_num, by go_num, by omega, by omega, by omega, by omega, by omega, by omega, HTT.out _, HM', HBL'⟩
                      case measure => simp [intOf]; omega
                    · have cj := HT.out.sCell (j := j) (by omega)
                      have hjd : decide ((n : Int) ≤ (j : Int)) = false := decide_eq_false (by omega)
                      have hjn : decide (n ≤ j) = false := decide_eq_false (by omega)
                      have z1 := HSH.out i (by omega)
                      have z2 := HSH.out j (by omega)
                      by_cases hle : le (s i) (s j) = true
                      · have HM' : Hid (Merging s (put b' k (s i)) lo (lo + wd) (n) (i + 1) j (k + 1)) := HMM.out.left HS1.out HS2.out hi (.inr hle)
                        have HTT : Hid (∀ m, Two w ((wr.drewN m).setCell ⟨h, k, none⟩ (.string (s i))) g h n s (put b' k (s i))) := fun m => (HT.out.drewN m).putB k (s i)
                        have HBL' : Hid (∀ t, t < lo → put b' k (s i) t = b t) := put_below HBL.out q6
                        have hcd : cmpT (s i) (s j) ≤ 0 := cmpT_le.2 hle
                        clear hkk hle
                        go_wp2
                        go_quiet ((go_at_call 22; exact Calls.quiet_of (compare_any _ _ _ z1 z2)))
                        go_wp2
                        go_roundw
                        case rel => exact ⟨i + 1, j, k + 1, _, by go_num, by go_num, by go_num, by omega, by omega, by omega, by omega, by omega, by omega, HTT.out _, HM', HBL'⟩
                        case measure => simp [intOf]; omega
                      · have hlf : le (s j) (s i) = true := le_of_not (by simpa using hle)
                        have HM' : Hid (Merging s (put b' k (s j)) lo (lo + wd) (n) i (j + 1) (k + 1)) := HMM.out.right HS1.out HS2.out (by omega) (.inr hlf)
                        have HTT : Hid (∀ m, Two w ((wr.drewN m).setCell ⟨h, k, none⟩ (.string (s j))) g h n s (put b' k (s j))) := fun m => (HT.out.drewN m).putB k (s j)
                        have HBL' : Hid (∀ t, t < lo → put b' k (s j) t = b t) := put_below HBL.out q6
                        have hcd : decide (cmpT (s i) (s j) ≤ 0) = false := decide_eq_false (fun h => hle (cmpT_le.1 h))
                        clear hkk hle hlf
                        go_wp2
                        go_quiet ((go_at_call 22; exact Calls.quiet_of (compare_any _ _ _ z1 z2)))
                        go_wp2
                        go_roundw
                        case rel => exact ⟨i, j + 1, k + 1, _, by go_num, by go_num, by go_num, by omega, by omega, by omega, by omega, by omega, by omega, HTT.out _, HM', HBL'⟩
                        case measure => simp [intOf]; omega
                  · have cj := HT.out.sCell (j := j) (by omega)
                    have hid : decide ((i : Int) < ((lo : Int) + (wd : Int))) = false := decide_eq_false (by omega)
                    have hin : decide (i < lo + wd) = false := decide_eq_false (by omega)
                    have HM' : Hid (Merging s (put b' k (s j)) lo (lo + wd) (n) i (j + 1) (k + 1)) := HMM.out.right HS1.out HS2.out (by omega) (.inl (by omega))
                    have HTT : Hid (∀ m, Two w ((wr.drewN m).setCell ⟨h, k, none⟩ (.string (s j))) g h n s (put b' k (s j))) := fun m => (HT.out.drewN m).putB k (s j)
                    have HBL' : Hid (∀ t, t < lo → put b' k (s j) t = b t) := put_below HBL.out q6
                    have hjd : (j : Int) < n := by omega
                    have hjh : j < n := by omega
                    clear hkk
                    go_wp2
                    go_quiet (fail)
                    go_wp2
                    go_roundw
                    case rel => exact ⟨i, j + 1, k + 1, _, by go_num, by go_num, by go_num, by omega, by omega, by omega, by omega, by omega, by omega, HTT.out _, HM', HBL'⟩
                    case measure => simp [intOf]; omega
                · have hd := HMM.out.done (by omega)
                  have HM2 : Hid (Merged s b' n wd (m + 1) (lo + 2 * wd)) := HM.out.step hlt (by omega) (by omega) HBL.out hd.1 hd.2
                  clear hd
                  go_wp2
                  go_roundw
                  case rel => exact ⟨lo + 2 * wd, m + 1, b', by go_num, by omega, HT, HM2⟩
                  case measure => simp [intOf]; omega
            · have dA : decide ((n : Int) < (lo : Int) + (wd : Int)) = true := decide_eq_true (by omega)
              have dB : decide ((n : Int) < (lo : Int) + 2 * (wd : Int)) = true := decide_eq_true (by omega)
              have hrr := HR.out.two (mid := n) (hi := n) HM.out.hlo (by omega) (by omega)
              have HS1 : Hid (SortedOn s lo n) := hrr.1
              have HS2 : Hid (SortedOn s n n) := hrr.2
              clear hrr
              go_wp2
              go_loopw [8, 9, 10] (fun vi vj vk wr => ∃ (i j k : Nat) (b' : Nat → ByteArray), vi = .int .i64 i ∧ vj = .int .i64 j ∧ vk = .int .i64 k ∧ lo ≤ i ∧ i ≤ n ∧ n ≤ j ∧ j ≤ n ∧ k ≤ n ∧ lo ≤ k ∧ Hid (Two w wr g h n s b') ∧ Hid (Merging s b' lo (n) (n) i j k) ∧ Hid (∀ t, t < lo → b' t = b t)) (fun _ _ vk _ => n - (intOf vk).toNat)
              case atStart => exact ⟨lo, n, lo, b, rfl, by go_num, rfl, by omega, by omega, by omega, by omega, by omega, by omega, HT, Merging.start (by omega) (by omega), (fun t _ => rfl)⟩
              case round =>
                clear HT
                obtain ⟨i, j, k, b', rfl, rfl, rfl, q1, q2, q3, q4, q5, q6, HT, HMM, HBL⟩ := hrel
                by_cases hk : k < n
                · have hkn : k < n := by omega
                  have hkk := HMM.out.hk
                  have cb := HT.out.bCell hkn
                  have fb := HT.out.ob.frozenAt k
                  have hkd : (k : Int) < (n : Int) := by omega
                  by_cases hi : i < n
                  · have cs := HT.out.sCell (j := i) (by omega)
                    have hid : (i : Int) < (n : Int) := by omega
                    by_cases hj : n ≤ j
                    · have HM' : Hid (Merging s (put b' k (s i)) lo (n) (n) (i + 1) j (k + 1)) := HMM.out.left HS1.out HS2.out hi (.inl hj)
                      have HTT : Hid (∀ m, Two w ((wr.drewN m).setCell ⟨h, k, none⟩ (.string (s i))) g h n s (put b' k (s i))) := fun m => (HT.out.drewN m).putB k (s i)
                      have HBL' : Hid (∀ t, t < lo → put b' k (s i) t = b t) := put_below HBL.out q6
                      have hjd : (n : Int) ≤ (j : Int) := by omega
                      clear hkk
                      go_wp2
                      go_quiet (fail)
                      go_wp2
                      go_roundw
                      case rel => exact ⟨i + 1, j, k + 1, _, by go_num, by go_num, by go_num, by omega, by omega, by omega, by omega, by omega, by omega, HTT.out _, HM', HBL'⟩
                      case measure => simp [intOf]; omega
                    · exfalso; omega
                  · exfalso; omega
                · have hd := HMM.out.done (by omega)
                  have HM2 : Hid (Merged s b' n wd (m + 1) (lo + 2 * wd)) := HM.out.step hlt (by omega) (by omega) HBL.out hd.1 hd.2
                  clear hd
                  go_wp2
                  go_roundw
                  case rel => exact ⟨lo + 2 * wd, m + 1, b', by go_num, by omega, HT, HM2⟩
                  case measure => simp [intOf]; omega
        · have hdn := HM.out.done (by omega)
          have HP1 : Hid ((seg b 0 n).Perm (seg s 0 n)) := hdn.1
          have HR1 : Hid (Runs b n (2 * wd)) := hdn.2
          clear hdn HM
          go_wp2
          go_loopw [11] (fun v11 wr => ∃ (k : Nat) (s' : Nat → ByteArray), v11 = .int .i64 k ∧ k ≤ n ∧ Hid (Two w wr g h n s' b) ∧ Hid (∀ t, t < k → s' t = b t)) (fun v11 _ => n - (intOf v11).toNat)
          case atStart => exact ⟨0, s, rfl, by omega, HT, (fun t ht => by omega)⟩
          case round =>
            clear HT
            obtain ⟨k, s', rfl, hk, HT, HE⟩ := hrel
            by_cases hkn : k < n
            · have cb := HT.out.bCell hkn
              have cs := HT.out.sCell hkn
              have fs := HT.out.os.frozenAt k
              have HTT : Hid (Two w (wr.setCell ⟨g, k, none⟩ (.string (b k))) g h n (put s' k (b k)) b) := HT.out.putS k (b k)
              have HE' : Hid (∀ t, t < k + 1 → put s' k (b k) t = b t) := copy_put (s0 := s) HE.out
              go_wp2
              go_roundw
              case rel => exact ⟨k + 1, _, by go_num, by omega, HTT, HE'⟩
              case measure => simp [intOf]; omega
            · obtain rfl : k = n := by omega
              have hpp : (seg s' 0 k).Perm (seg s 0 k) := by rw [seg_congr (f := s') (g := b) (fun t _ ht => HE.out t ht)]; exact HP1.out
              have HSH' : Hid (Short k s') := short_of_perm HSH.out hpp
              have HPP : Hid ((seg s' 0 k).Perm (seg f 0 k)) := hpp.trans HPM.out
              have HRR : Hid (Runs s' k (2 * wd)) := HR1.out.congr HE.out
              clear hpp
              go_wp2
              go_roundw
              case rel => exact ⟨2 * wd, s', b, by omega, by omega, by go_num, HT, HRR, HPP, HSH'⟩
              case measure => simp [intOf]; omega
    · go_wp2
      go_end0
      refine ⟨rfl, s, ?_, HR.out.whole (by omega), HPM.out, HT0.out.below⟩
      exact strs_of_row (by simp) (fun j hj => by simp [nm, List.getD, hj]) HT0.out.os
end Go.Proofs.Qxb6600942a
