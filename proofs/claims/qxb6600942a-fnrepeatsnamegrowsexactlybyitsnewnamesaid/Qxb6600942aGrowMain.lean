import Derived.Test.Qxb6600942aGrowPlain
namespace Go.Proofs.Qxb6600942a
open Go.RowKit
set_option linter.unusedVariables false

set_option maxHeartbeats 2000000 in
theorem grow_walk (a : Option Addr) (n cap : Nat) (ss : List ByteArray) (x : ByteArray) (w : World) (hS : Strs w a n cap ss) (hn : n ≤ maxLen) (hx : x.size ≤ maxLen) :
    Calls Try.prog 4 #[.slice a n cap, .string x] w fun e w' => e = .returned (.bool true) ∧ Below w.heap.size w w' := by
  obtain ⟨i0, hi, hz0, hz1, hz2⟩ := info_parts Try.info9
  have HS : Hid (Strs w a n cap ss) := hS
  have hn' := hn
  unfold maxLen at hn'
  clear hS
  go_enter Try.func4, Try.ntmps4
  go_wp2_with fail
  refine (bytes13_any a n cap ss x _ HS.out hn hx).mono ?_
  rintro e w' ⟨hres, rfl⟩
  rcases hres with rfl | ⟨rfl, hbd⟩
  · go_wp2
    go_ret
    exact ⟨rfl, Below.refl _ _⟩
  by_cases hbig : 65536 < n
  · go_wp2
    go_ret
    exact ⟨rfl, Below.refl _ _⟩
  clear hn hx
  go_wp2_with fail
  refine (texts_any a n cap ss _ HS.out (by omega)).mono ?_
  rintro e w' ⟨he, rfl⟩
  obtain ⟨T, hT⟩ : ∃ T : Int, T = ((16 * n + slen ss : Nat) : Int) := ⟨_, rfl⟩
  rw [← hT] at he
  subst he
  have hT1 : (n : Int) ≤ T := by omega
  have hT2 : (slen ss : Int) ≤ T := by omega
  have hT3 : T ≤ 2097152 := by omega
  clear hT
  by_cases hbig2 : (1048560 : Int) < T + x.size
  · go_wp2
    go_ret
    exact ⟨rfl, Below.refl _ _⟩
  go_wp2_with fail
  refine (clone_any a n cap ss _ HS.out (by omega)).mono ?_
  rintro e w1 ⟨a1, rfl, hS1, hb1⟩
  have HS1 : Hid (Strs w1 a1 n n ss) := hS1
  clear hS1
  go_wp2_with fail
  refine (members_any a1 n n ss _ HS1.out (by omega)).mono ?_
  rintro e w2 ⟨rfl, hM2, hb2⟩
  have HM2 : Hid (MRow w2 w1.heap.size n ss) := hM2
  clear hM2
  have HSZ : Hid (∀ i, (nm ss i).size ≤ maxLen) := fun i => by have := size_le_slen ss i; unfold maxLen; omega
  go_wp2_with fail
  refine (zzrep_any w1.heap.size n n ss _ HM2.out (Nat.le_refl _) (by omega) HSZ.out).mono ?_
  rintro e w3 ⟨b1, rfl, hB1, hb3⟩
  have HB1 : Hid (b1 = true ↔ Dup ss) := hB1
  have h13 : Below w.heap.size w w3 := (hb1.trans (hb2.mono hb1.size)).trans (hb3.mono (Nat.le_trans hb1.size hb2.size))
  have HS3 : Hid (Strs w3 a1 n n ss) := (HS1.out.later hb2 (Nat.le_refl _)).later hb3 (Nat.le_refl _)
  clear hB1 HM2 hb1 hb2 hb3
  go_wp2_with (at_make; refine wpList_make_own _ rfl _ _ 22 rfl w3.heap.size 9 i0 (.string ByteArray.empty) 1 Try.underlying22 hi hz0 hz1 .i64 .i64 _ (n + 1) rfl rfl (by omega) (by rw [hz2]; omega) (by unfold maxLen; omega) (Nat.le_refl _) ?_; intro w4 hown4 hg4)
  have hb4 : Below w3.heap.size w3 w4 := (Below.refl _ _).grown hg4 (Nat.le_refl _) (fun k h => by simp at h)
  clear hg4
  go_loopw [6, 7] (fun d i wr => ∃ k : Nat, k ≤ n ∧ i = .int .i64 k ∧ d = .slice (some ⟨w3.heap.size, 0, none⟩) k (n + 1) ∧ wr.ownsRow w3.heap.size 9 1 (.slice (some ⟨w3.heap.size, 0, none⟩) k (n + 1)) k (texts (ss.take k)) ∧ Below w3.heap.size w3 wr) (fun _ i _ => n - (intOf i).toNat)
  case atStart => exact ⟨0, by omega, rfl, rfl, hown4, hb4⟩
  case round =>
    clear hown4 hb4
    obtain ⟨k, hk, rfl, rfl, hown, hbr⟩ := hrel
    have HO : Hid (wr.ownsRow w3.heap.size 9 1 (.slice (some ⟨w3.heap.size, 0, none⟩) k (n + 1)) k (texts (ss.take k))) := hown
    clear hown
    by_cases hlt : k < n
    · obtain ⟨yb, yo, rfl, hc, hyl⟩ := HS3.out.at hlt
      have hc' : wr.cell? ⟨yb, yo + k, none⟩ = some (.string (nm ss k)) := by rw [hbr.cell hyl]; exact hc
      have HT : Hid (texts (ss.take k) ++ [.string (nm ss k)] = texts (ss.take (k + 1))) := texts_snoc ss k (by rw [HS3.out.1]; exact hlt)
      obtain ⟨s1, h1⟩ : ∃ s, s = nm ss k := ⟨_, rfl⟩
      rw [← h1] at hc' HT
      clear h1 hc
      go_wp2_with (at_builtin; refine wpList_append_fits _ rfl (.tmp 43) (.tmp 48) 22 rfl w3.heap.size 9 i0 1 Try.underlying22 hi hz1 w3.heap.size k (n + 1) (texts (ss.take k)) rfl (HO.out.alloc _) ⟨wr.heap.size, 0, none⟩ 1 1 [.string s1] rfl rfl (cell_one_new _ _ _) (fun u hu => by simp at hu; subst hu; rfl) (by omega) ?_; intro w5 hown5 hg5; have hb5 : Below w3.heap.size w3 w5 := (hbr.alloc hbr.size _).grown hg5 (by have := hbr.size; simp; omega) (fun k h => by simp at h; omega))
      rw [HT.out] at hown5
      go_roundw
      case rel => exact ⟨k + 1, by omega, by go_num, rfl, hown5, hb5⟩
      case measure => simp [intOf]; omega
    · obtain rfl : k = n := by omega
      go_wp2_with (at_builtin; refine wpList_append_fits _ rfl (.tmp 50) (.tmp 52) 22 rfl w3.heap.size 9 i0 1 Try.underlying22 hi hz1 w3.heap.size k (k + 1) (texts (ss.take k)) rfl (HO.out.alloc _) ⟨wr.heap.size, 0, none⟩ 1 1 [.string x] rfl rfl (cell_one_new _ _ _) (fun u hu => by simp at hu; subst hu; rfl) (by omega) ?_; intro w5 hown5 hg5; have hb5 : Below w3.heap.size w3 w5 := (hbr.alloc hbr.size _).grown hg5 (by have := hbr.size; simp; omega) (fun k h => by simp at h; omega))
      have hlen : ss.length = k := HS3.out.1
      rw [List.take_of_length_le (by omega), show texts ss ++ [Value.string x] = texts (ss ++ [x]) from by simp [texts]] at hown5
      have HS5 : Hid (Strs w5 (some ⟨w3.heap.size, 0, none⟩) (k + 1) (k + 1) (ss ++ [x])) := strs_of_texts (by simp [hlen]) hown5
      have HS5' : Hid (Strs w5 a1 k k ss) := HS3.out.later hb5 (Nat.le_refl _)
      have HSZ2 : Hid (∀ i, (nm (ss ++ [x]) i).size ≤ maxLen) := fun i => by
        have := size_le_slen (ss ++ [x]) i
        rw [slen_append] at this
        simp [slen] at this
        unfold maxLen; omega
      have h15 : Below w.heap.size w w5 := h13.trans (hb5.mono h13.size)
      have HLEN : Hid (ss.length = k) := hlen
      clear hown5 hg5 HO hbr hlen HS3 h13 hb5
      refine (members_any (some ⟨w3.heap.size, 0, none⟩) (k + 1) (k + 1) (ss ++ [x]) _ HS5.out (by omega)).mono ?_
      rintro e w6 ⟨rfl, hM6, hb6⟩
      have HM6 : Hid (MRow w6 w5.heap.size (k + 1) (ss ++ [x])) := hM6
      clear hM6
      go_wp2_with fail
      refine (zzrep_any w5.heap.size (k + 1) (k + 1) (ss ++ [x]) _ HM6.out (Nat.le_refl _) (by omega) HSZ2.out).mono ?_
      rintro e w7 ⟨b2, rfl, hB2, hb7⟩
      have HB2 : Hid (b2 = true ↔ Dup (ss ++ [x])) := hB2
      have HS7 : Hid (Strs w7 a1 k k ss) := (HS5'.out.later hb6 (Nat.le_refl _)).later hb7 (Nat.le_refl _)
      have h17 : Below w.heap.size w w7 := (h15.trans (hb6.mono h15.size)).trans (hb7.mono (Nat.le_trans h15.size hb6.size))
      clear hB2 HM6 hb6 hb7 HS5 HS5' HSZ2 h15
      go_wp2
      go_loop [9, 10] (fun p i => ∃ (l : Nat) (q : Bool), l ≤ k ∧ i = .int .i64 l ∧ p = .bool q ∧ Hid (q = true ↔ ∃ j, j < l ∧ nm ss j = x)) (fun _ i => k - (intOf i).toNat)
      case atStart => exact ⟨0, false, by omega, rfl, rfl, ⟨fun h => (by cases h), fun ⟨j, hj, _⟩ => by omega⟩⟩
      case round =>
        obtain ⟨l, q, hl, rfl, rfl, HQ⟩ := hrel
        by_cases hll : l < k
        · obtain ⟨yb, yo, rfl, hc, hyl⟩ := HS7.out.at hll
          by_cases hs : nm ss l = x
          · have hs' := (eqB_iff _ _).2 hs
            have HQ' : Hid (true = true ↔ ∃ j, j < l + 1 ∧ nm ss j = x) := ⟨fun _ => ⟨l, by omega, hs⟩, fun _ => rfl⟩
            clear hs
            obtain ⟨s1, h1⟩ : ∃ s, s = nm ss l := ⟨_, rfl⟩
            rw [← h1] at hc hs'
            clear h1
            go_wp2
            go_round
            case rel => exact ⟨l + 1, true, by omega, by go_num, rfl, HQ'⟩
            case measure => simp [intOf]; omega
          · have hs' := eqB_false hs
            have HQ' : Hid (q = true ↔ ∃ j, j < l + 1 ∧ nm ss j = x) := by
              refine HQ.out.trans ⟨fun ⟨j, hj, e⟩ => ⟨j, by omega, e⟩, fun ⟨j, hj, e⟩ => ⟨j, ?_, e⟩⟩
              by_cases e2 : j = l
              · rw [e2] at e; exact absurd e hs
              · omega
            clear hs
            obtain ⟨s1, h1⟩ : ∃ s, s = nm ss l := ⟨_, rfl⟩
            rw [← h1] at hc hs'
            clear h1
            go_wp2
            go_round
            case rel => exact ⟨l + 1, q, by omega, by go_num, rfl, HQ'⟩
            case measure => simp [intOf]; omega
        · obtain rfl : l = k := by omega
          go_wp2_with (at_make; refine wpList_make_full _ rfl _ _ 22 rfl w7.heap.size 9 i0 (.string ByteArray.empty) 1 Try.underlying22 hi hz0 hz1 .i64 .i64 _ _ l rfl rfl rfl rfl (by rw [hz2]; omega) (by unfold maxLen; omega) (Nat.le_refl _) ?_; intro w8 hown8 hg8)
          have hb8 : Below w7.heap.size w7 w8 := (Below.refl _ _).grown hg8 (Nat.le_refl _) (fun k h => by simp at h)
          rw [show (Value.string ByteArray.empty).cells = #[.string ByteArray.empty] from rfl, row_made l] at hown8
          clear hg8
          go_loopw [12] (fun i wr => ∃ (m : Nat) (f : Nat → ByteArray), m ≤ l ∧ i = .int .i64 m ∧ Hid (∀ j, l - m ≤ j → j < l → f j = nm ss.reverse j) ∧ wr.ownsRow w7.heap.size 9 1 (.slice (some ⟨w7.heap.size, 0, none⟩) l l) l (row f l) ∧ Below w7.heap.size w7 wr) (fun i _ => l - (intOf i).toNat)
          case atStart => exact ⟨0, _, by omega, rfl, (fun j h1 h2 => by omega), hown8, hb8⟩
          case round =>
            clear hown8 hb8
            obtain ⟨m, f, hm, rfl, HF, hown, hbr⟩ := hrel
            by_cases hml : m < l
            · obtain ⟨yb, yo, rfl, hc, hyl⟩ := HS7.out.at hml
              have hc' : wr.cell? ⟨yb, yo + m, none⟩ = some (.string (nm ss m)) := by rw [hbr.cell hyl]; exact hc
              obtain ⟨r, hr⟩ : ∃ r : Nat, r = l - 1 - m := ⟨_, rfl⟩
              have hri : (l : Int) - 1 - (m : Int) = (r : Int) := by omega
              have hrl : r < l := by omega
              have hdst : wr.cell? ⟨w7.heap.size, r, none⟩ = some (.string (f r)) := by rw [hown.cellAt r (by omega), row_get _ hrl]
              have hfz := hown.frozenAt r
              have R := (hown.stored r (.string (nm ss m))).1
              rw [row_set] at R
              have HF' : Hid (∀ j, l - (m + 1) ≤ j → j < l → (fun j => if j = r then nm ss m else f j) j = nm ss.reverse j) := by
                intro j h1 h2
                by_cases e : j = r
                · simp only [e, if_true]
                  rw [nm_reverse (by rw [HLEN.out]; exact hrl), HLEN.out, hr, show l - 1 - (l - 1 - m) = m from by omega]
                · simp only [e, if_false]
                  exact HF.out j (by omega) h2
              have HR : Hid ((wr.setCell ⟨w7.heap.size, r, none⟩ (.string (nm ss m))).ownsRow w7.heap.size 9 1 (.slice (some ⟨w7.heap.size, 0, none⟩) l l) l (row (fun j => if j = r then nm ss m else f j) l)) := R
              clear hown R hc hr
              go_wp2
              go_roundw
              case rel => exact ⟨m + 1, _, by omega, by go_num, HF', HR.out, hbr.setCell (Nat.le_refl _) _⟩
              case measure => simp [intOf]; omega
            · obtain rfl : m = l := by omega
              have HS9 : Hid (Strs wr (some ⟨w7.heap.size, 0, none⟩) m m ss.reverse) := strs_of_row (by rw [List.length_reverse]; exact HLEN.out) (fun j hj => HF.out j (by omega) hj) hown
              have h19 : Below w.heap.size w wr := h17.trans (hbr.mono h17.size)
              have HSZ3 : Hid (∀ i, (nm ss.reverse i).size ≤ maxLen) := fun i => by
                by_cases h : i < ss.length
                · rw [nm_reverse h]; exact HSZ.out _
                · have : nm ss.reverse i = ByteArray.empty := by simp [nm, List.getD, List.getElem?_eq_none (show ss.reverse.length ≤ i by simp; omega)]
                  rw [this]; exact Nat.zero_le _
              clear hown hbr HF
              go_wp2_with fail
              refine (members_any (some ⟨w7.heap.size, 0, none⟩) m m ss.reverse _ HS9.out (by omega)).mono ?_
              rintro e w10 ⟨rfl, hM10, hb10⟩
              have HM10 : Hid (MRow w10 _ m ss.reverse) := hM10
              clear hM10
              go_wp2_with fail
              refine (zzrep_any _ m m ss.reverse _ HM10.out (Nat.le_refl _) (by omega) HSZ3.out).mono ?_
              rintro e w11 ⟨b3, rfl, hB3, hb11⟩
              have fin : Below w.heap.size w w11 := (h19.trans (hb10.mono h19.size)).trans (hb11.mono (Nat.le_trans h19.size hb10.size))
              have e3 : b3 = b1 := by
                have := hB3.trans ((dup_reverse ss).trans HB1.out.symm)
                cases b3 <;> cases b1 <;> simp_all
              have e2 : b2 = (b1 || q) := by
                have h1 := HB2.out.trans (dup_snoc ss x)
                rw [HLEN.out] at h1
                have h2 := HB1.out
                have h3 := HQ.out
                cases b2 <;> cases b1 <;> cases q <;> simp_all
              clear HB1 HB2 HQ hB3
              subst e3
              subst e2
              cases b3 <;> cases q
              all_goals
                go_wp2
                go_ret
                exact ⟨rfl, fin⟩
end Go.Proofs.Qxb6600942a
