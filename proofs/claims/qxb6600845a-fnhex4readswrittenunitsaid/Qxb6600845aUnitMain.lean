import Derived.Test.Qxb6600845aUnitWalk
namespace Go.Proofs.Qxb6600845a
open Go.RowKit
open HexPlain
set_option linter.unusedVariables false

/-- The four nibbles of a code unit. -/
def nib (v : Int) : Nat → Int
  | 0 => v / 4096 % 16
  | 1 => v / 256 % 16
  | 2 => v / 16 % 16
  | _ => v % 16

theorem hexChar_int (x : Int) (u : Bool) (w : World) (hx : 0 ≤ x ∧ x < 16) :
    Calls Try.prog 11 #[.int .i64 x, .bool u] w fun e w' => ∃ c : Int, e = .returned (.int .u8 c) ∧ Hid (hexv c = x) ∧ (0 ≤ c ∧ c ≤ 255) ∧ w = w' := by
  obtain ⟨n, rfl⟩ : ∃ n : Nat, x = (n : Int) := ⟨x.toNat, by omega⟩
  exact hexChar_any n u w (by omega)
theorem getD_snoc (ds : List Int) (c : Int) (j : Nat) : (ds ++ [c]).getD j 0 = if j < ds.length then ds.getD j 0 else if j = ds.length then c else 0 := by
  simp only [List.getD, List.getElem?_append]
  split
  · rfl
  · split
    · rename_i h; subst h; simp
    · rw [List.getElem?_eq_none (by simp; omega)]; rfl
theorem unit_step {B n k m : Nat} {v c : Int} {ds zp : List Int} {w3 : World} (hdl : ds.length = k) (hdv : ∀ j, j < k → hexv (ds.getD j 0) = nib v j) (hdb : ∀ j, 0 ≤ ds.getD j 0 ∧ ds.getD j 0 ≤ 255)
    (hcv : hexv c = nib v k) (hcb : 0 ≤ c ∧ c ≤ 255) (hown : w3.ownsRow B 5 1 (.slice (some ⟨B, 0, none⟩) (n + k + 1) (n + 4 + m)) (n + k + 1) (bytes (zp ++ ds) ++ [.int .u8 c])) :
    ∃ ds' : List Int, ds'.length = k + 1 ∧ (∀ j, j < k + 1 → hexv (ds'.getD j 0) = nib v j) ∧ (∀ j, 0 ≤ ds'.getD j 0 ∧ ds'.getD j 0 ≤ 255) ∧
      w3.ownsRow B 5 1 (.slice (some ⟨B, 0, none⟩) (n + (k + 1)) (n + 4 + m)) (n + (k + 1)) (bytes (zp ++ ds')) := by
  refine ⟨ds ++ [c], by simp [hdl], fun j hj => ?_, fun j => ?_, ?_⟩
  · rw [getD_snoc, hdl]
    by_cases h : j < k
    · rw [if_pos h]; exact hdv j h
    · rw [if_neg h, if_pos (by omega), show j = k from by omega]; exact hcv
  · rw [getD_snoc]
    split
    · exact hdb j
    · split
      · exact hcb
      · omega
  · have e : bytes (zp ++ (ds ++ [c])) = bytes (zp ++ ds) ++ [.int .u8 c] := by simp [bytes]
    rw [e]; exact hown

set_option maxHeartbeats 1000000 in
theorem unit_main (a b : Option Addr) (n cap m cbp : Nat) (v u : Int) (zp zs : List Int) (w : World) (hn : n ≤ 524288) (hm : m ≤ 524288) (hv : 0 ≤ v ∧ v ≤ 65535) (hu : 0 ≤ u ∧ u ≤ 255)
    (hP : Src w a n cap zp) (hS : Src w b m cbp zs) :
    Calls Try.prog 4 #[.slice a n cap, .int .u16 v, .int .u8 u, .slice b m cbp] w fun e w' => e = .returned (.bool true) ∧ Below w.heap.size w w' := by
  obtain ⟨i0, hi, hz0, hz1, hz2⟩ := info_parts Try.info5
  have HP : Hid (Src w a n cap zp) := hP
  have HS : Hid (Src w b m cbp zs) := hS
  clear hP hS
  go_enter Try.func4, Try.ntmps4
  go_wp2_with (first
    | (go_at_call 10; refine (zzb10_yes _ _ _ _ _ _ _ _ _ (by omega)).mono ?_; rintro e w' ⟨rfl, rfl⟩)
    | (at_make; refine wpList_make_own _ rfl _ _ 22 rfl w.heap.size 5 i0 (.int .u8 0) 1 Try.underlying22 hi hz0 hz1 .i64 .i64 _ (n + 4 + m) rfl rfl (by omega) (by rw [hz2]; omega) (by unfold maxLen; omega) (Nat.le_refl _) ?_; intro w1 hown1 hg1; have hb1 : Below w.heap.size w w1 := (Below.refl _ _).grown hg1 (Nat.le_refl _) (fun k h => by simp at h))
    | (at_builtin; refine wpList_append_fits_any _ rfl (.tmp 34) (.tmp 35) 22 rfl w.heap.size 5 i0 1 Try.underlying22 hi hz1 w.heap.size 0 (n + 4 + m) [] rfl hown1 a n cap (bytes zp) rfl (by rw [bytes_length, HP.out.1]; omega) HP.out.2.1 (HP.out.news hb1) (bytes_one _) (by omega) ?_; intro w2 hown2 hg2; simp only [Nat.zero_add, List.nil_append] at hown2; have hb2 : Below w.heap.size w w2 := hb1.grown hg2 hb1.size (fun k h => by simp at h; omega)))
  clear hown1 hg1 hg2
  go_loopw [9, 10] (fun d i wr => ∃ (k : Nat) (ds : List Int), k ≤ 4 ∧ i = .int .i64 k ∧ ds.length = k ∧ (∀ j, j < k → hexv (ds.getD j 0) = nib v j) ∧ (∀ j, 0 ≤ ds.getD j 0 ∧ ds.getD j 0 ≤ 255) ∧
      d = .slice (some ⟨w.heap.size, 0, none⟩) (n + k) (n + 4 + m) ∧ wr.ownsRow w.heap.size 5 1 (.slice (some ⟨w.heap.size, 0, none⟩) (n + k) (n + 4 + m)) (n + k) (bytes (zp ++ ds)) ∧ Below w.heap.size w wr)
    (fun _ i _ => 4 - (intOf i).toNat)
  case atStart => exact ⟨0, [], by omega, rfl, rfl, fun j h => by omega, fun j => by simp, rfl, by simpa using hown2, hb2⟩
  case round =>
    clear hown2 hb2
    obtain ⟨k, ds, hk, rfl, hdl, hdv, hdb, rfl, hown, hbr⟩ := hrel
    have HDL : Hid (ds.length = k) := hdl
    have HDV : Hid (∀ j, j < k → hexv (ds.getD j 0) = nib v j) := hdv
    have HDB : Hid (∀ j, 0 ≤ ds.getD j 0 ∧ ds.getD j 0 ≤ 255) := hdb
    have HO : Hid (wr.ownsRow w.heap.size 5 1 (.slice (some ⟨w.heap.size, 0, none⟩) (n + k) (n + 4 + m)) (n + k) (bytes (zp ++ ds))) := hown
    clear hdl hdv hdb hown
    by_cases hlt : k < 4
    · rcases (show k = 0 ∨ k = 1 ∨ k = 2 ∨ k = 3 from by omega) with rfl | rfl | rfl | rfl
      · have e15 := and15 (v / 4096) (by omega) (by omega)
        rw [Nat.add_zero] at HO
        go_wp2_with (first
          | (go_at_call 11; refine (hexChar_int _ _ _ (by omega)).mono ?_; rintro e w' ⟨c, rfl, hcv, hcb, rfl⟩)
          | (at_builtin; refine wpList_append_fits _ rfl (.tmp 49) (.tmp 58) 22 rfl w.heap.size 5 i0 1 Try.underlying22 hi hz1 w.heap.size (n) (n + 4 + m) (bytes (zp ++ ds)) rfl (HO.out.alloc _) ⟨wr.heap.size, 0, none⟩ 1 1 [.int .u8 c] rfl rfl (cell_one_new _ _ _) (fun u hu => by simp at hu; subst hu; rfl) (by omega) ?_; intro w3 hown3 hg3; have hb3 : Below w.heap.size w w3 := (hbr.alloc hbr.size _).grown hg3 (by have := hbr.size; simp; omega) (fun k h => by simp at h; omega)))
        go_roundw
        case rel =>
          obtain ⟨ds', q1, q2, q3, q4⟩ := unit_step (n := n) (k := 0) (m := m) (v := v) HDL.out HDV.out HDB.out hcv hcb hown3
          exact ⟨1, ds', by omega, by go_num, q1, q2, q3, rfl, q4, hb3⟩
        case measure => simp [intOf]
      · have e15 := and15 (v / 256) (by omega) (by omega)
        go_wp2_with (first
          | (go_at_call 11; refine (hexChar_int _ _ _ (by omega)).mono ?_; rintro e w' ⟨c, rfl, hcv, hcb, rfl⟩)
          | (at_builtin; refine wpList_append_fits _ rfl (.tmp 49) (.tmp 58) 22 rfl w.heap.size 5 i0 1 Try.underlying22 hi hz1 w.heap.size (n + 1) (n + 4 + m) (bytes (zp ++ ds)) rfl (HO.out.alloc _) ⟨wr.heap.size, 0, none⟩ 1 1 [.int .u8 c] rfl rfl (cell_one_new _ _ _) (fun u hu => by simp at hu; subst hu; rfl) (by omega) ?_; intro w3 hown3 hg3; have hb3 : Below w.heap.size w w3 := (hbr.alloc hbr.size _).grown hg3 (by have := hbr.size; simp; omega) (fun k h => by simp at h; omega)))
        go_roundw
        case rel =>
          obtain ⟨ds', q1, q2, q3, q4⟩ := unit_step (n := n) (k := 1) (m := m) (v := v) HDL.out HDV.out HDB.out hcv hcb hown3
          exact ⟨2, ds', by omega, by go_num, q1, q2, q3, rfl, q4, hb3⟩
        case measure => simp [intOf]
      · have e15 := and15 (v / 16) (by omega) (by omega)
        go_wp2_with (first
          | (go_at_call 11; refine (hexChar_int _ _ _ (by omega)).mono ?_; rintro e w' ⟨c, rfl, hcv, hcb, rfl⟩)
          | (at_builtin; refine wpList_append_fits _ rfl (.tmp 49) (.tmp 58) 22 rfl w.heap.size 5 i0 1 Try.underlying22 hi hz1 w.heap.size (n + 2) (n + 4 + m) (bytes (zp ++ ds)) rfl (HO.out.alloc _) ⟨wr.heap.size, 0, none⟩ 1 1 [.int .u8 c] rfl rfl (cell_one_new _ _ _) (fun u hu => by simp at hu; subst hu; rfl) (by omega) ?_; intro w3 hown3 hg3; have hb3 : Below w.heap.size w w3 := (hbr.alloc hbr.size _).grown hg3 (by have := hbr.size; simp; omega) (fun k h => by simp at h; omega)))
        go_roundw
        case rel =>
          obtain ⟨ds', q1, q2, q3, q4⟩ := unit_step (n := n) (k := 2) (m := m) (v := v) HDL.out HDV.out HDB.out hcv hcb hown3
          exact ⟨3, ds', by omega, by go_num, q1, q2, q3, rfl, q4, hb3⟩
        case measure => simp [intOf]
      · have e15 := and15 (v) (by omega) (by omega)
        go_wp2_with (first
          | (go_at_call 11; refine (hexChar_int _ _ _ (by omega)).mono ?_; rintro e w' ⟨c, rfl, hcv, hcb, rfl⟩)
          | (at_builtin; refine wpList_append_fits _ rfl (.tmp 49) (.tmp 58) 22 rfl w.heap.size 5 i0 1 Try.underlying22 hi hz1 w.heap.size (n + 3) (n + 4 + m) (bytes (zp ++ ds)) rfl (HO.out.alloc _) ⟨wr.heap.size, 0, none⟩ 1 1 [.int .u8 c] rfl rfl (cell_one_new _ _ _) (fun u hu => by simp at hu; subst hu; rfl) (by omega) ?_; intro w3 hown3 hg3; have hb3 : Below w.heap.size w w3 := (hbr.alloc hbr.size _).grown hg3 (by have := hbr.size; simp; omega) (fun k h => by simp at h; omega)))
        go_roundw
        case rel =>
          obtain ⟨ds', q1, q2, q3, q4⟩ := unit_step (n := n) (k := 3) (m := m) (v := v) HDL.out HDV.out HDB.out hcv hcb hown3
          exact ⟨4, ds', by omega, by go_num, q1, q2, q3, rfl, q4, hb3⟩
        case measure => simp [intOf]
    · obtain rfl : k = 4 := by omega
      have hnew : Hid (∀ w4 : World, w4.ownsRow w.heap.size 5 1 (.slice (some ⟨w.heap.size, 0, none⟩) (n + 4 + m) (n + 4 + m)) (n + 4 + m) (bytes (zp ++ ds) ++ bytes zs) → ∀ j, j < 4 → w4.cell? ⟨w.heap.size, 0 + n + j, none⟩ = some (.int .u8 (ds.getD j 0))) := by
        intro w4 h j hj
        rw [← bytes_append] at h
        have h2 := HP.out.1
        have h3 := HDL.out
        rw [Nat.zero_add, own_byte h (n + j) (by simp; omega)]
        simp only [List.getD]
        rw [List.append_assoc, List.getElem?_append_right (by omega), List.getElem?_append_left (by omega), h2, Nat.add_sub_cancel_left]
      obtain ⟨c, hc⟩ : ∃ c : Nat → Int, c = fun j => ds.getD j 0 := ⟨_, rfl⟩
      have HC : Hid (c = fun j => ds.getD j 0) := hc
      have hacc : acc c 4 = v := by
        have h0 := HDV.out 0 (by omega)
        have h1 := HDV.out 1 (by omega)
        have h2 := HDV.out 2 (by omega)
        have h3 := HDV.out 3 (by omega)
        simp only [acc, hc, h0, h1, h2, h3, nib]
        omega
      have HCb : Hid (∀ j, 0 ≤ c j ∧ c j ≤ 255) := by rw [hc]; exact HDB.out
      have HCn : Hid (¬ ∃ j, j < 4 ∧ hexv (c j) < 0) := by
        rintro ⟨j, hj, h⟩
        rw [hc] at h
        simp only [HDV.out j hj] at h
        match j, hj with
        | 0, _ => simp only [nib] at h; omega
        | 1, _ => simp only [nib] at h; omega
        | 2, _ => simp only [nib] at h; omega
        | 3, _ => simp only [nib] at h; omega
      have HA : Hid (acc c 4 = v) := hacc
      clear hc hacc
      go_wp2_with (at_builtin; refine wpList_append_fits_any _ rfl (.tmp 60) (.tmp 61) 22 rfl w.heap.size 5 i0 1 Try.underlying22 hi hz1 w.heap.size (n + 4) (n + 4 + m) (bytes (zp ++ ds)) rfl HO.out b m cbp (bytes zs) rfl (by rw [bytes_length, HS.out.1]; omega) HS.out.2.1 (HS.out.news hbr) (bytes_one _) (by omega) ?_; intro w4 hown4 hg4; have hb4 : Below w.heap.size w w4 := hbr.grown hg4 hbr.size (fun k h => by simp at h; omega))
      refine (zzhex4_long w.heap.size 0 (n + 4 + m) (n + 4 + m) n c _ (by omega) (Nat.le_refl _) (by omega) (by omega) (own_lt hown4) (fun j hj => by rw [hnew.out w4 hown4 j hj, HC.out]) HCb.out).mono ?_
      rintro e w5 ⟨hres, hb5⟩
      rcases hres with ⟨_, he⟩ | ⟨hno, _⟩
      · rw [HA.out] at he
        subst he
        clear hown4 hg4
        go_wp2
        go_ret
        exact ⟨rfl, hb4.trans (hb5.mono hb4.size)⟩
      · exact absurd hno HCn.out
end Go.Proofs.Qxb6600845a
