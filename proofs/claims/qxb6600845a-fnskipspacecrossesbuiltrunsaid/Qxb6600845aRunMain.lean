import Derived.Test.Qxb6600845aSkipRun
namespace Go.Proofs.Qxb6600845a
open Go.RowKit
set_option linter.unusedVariables false

theorem Src.at {w : World} {a : Option Addr} {n cap : Nat} {zs : List Int} (h : Src w a n cap zs) {j : Nat} (hj : j < n) :
    ∃ yb yo, a = some ⟨yb, yo, none⟩ ∧ w.cell? ⟨yb, yo + j, none⟩ = some (.int .u8 (zs.getD j 0)) ∧ yb < w.heap.size := by
  cases a with
  | none => have := (h.2.1 rfl).1; omega
  | some x =>
    have hc := h.2.2 x rfl j hj
    obtain ⟨yb, yo, spot⟩ := x
    have hspot : spot = none := by simpa [Addr.add] using World.cell?_spot (h.2.2 _ rfl 0 (by omega))
    subst hspot
    rw [Addr.add_lit] at hc
    exact ⟨yb, yo, rfl, hc, World.block_lt_of_cell? _ _ hc⟩

/-- What the run of whitespace looks like in the built row. -/
structure Built (zp ds zr : List Int) (n m : Nat) : Prop where
  hp : zp.length = n
  hd : ds.length = m
  sp : ∀ j, j < m → isSp (ds.getD j 0) = true
  no : 0 < zr.length → isSp (zr.getD 0 0) = false
theorem Built.in_run {zp ds zr : List Int} {n m : Nat} (h : Built zp ds zr n m) (j : Nat) (h1 : n ≤ j) (h2 : j < n + m) : isSp ((zp ++ ds ++ zr).getD j 0) = true := by
  have e : (zp ++ ds ++ zr).getD j 0 = ds.getD (j - n) 0 := by
    have a := h.hp
    have b := h.hd
    simp only [List.getD]
    rw [List.append_assoc, List.getElem?_append_right (by omega), List.getElem?_append_left (by omega), h.hp]
  rw [e]
  exact h.sp _ (by omega)
theorem Built.behind {zp ds zr : List Int} {n m : Nat} (h : Built zp ds zr n m) (h2 : n + m < (zp ++ ds ++ zr).length) : isSp ((zp ++ ds ++ zr).getD (n + m) 0) = false := by
  have a := h.hp
  have b := h.hd
  have e : (zp ++ ds ++ zr).getD (n + m) 0 = zr.getD 0 0 := by
    simp only [List.getD]
    rw [List.getElem?_append_right (by simp; omega), show n + m - (zp ++ ds).length = 0 from by simp; omega]
  rw [e]
  refine h.no ?_
  simp only [List.length_append] at h2; omega
theorem Built.lands {zp ds zr : List Int} {n m p q : Nat} (h : Built zp ds zr n m) (hp : n ≤ p) (hp2 : p ≤ n + m) (hl : Lands (zp ++ ds ++ zr) p q) : q = n + m := by
  obtain ⟨h1, h2, h3, h4⟩ := hl
  have a := h.hp
  have b := h.hd
  rcases (show q < n + m ∨ n + m < q ∨ q = n + m from by omega) with hq | hq | hq
  · have e1 := h.in_run q (by omega) hq
    have e2 := h4 (by simp only [List.length_append]; omega)
    rw [e1] at e2; cases e2
  · have e1 := h3 (n + m) hp2 hq
    have e2 := h.behind (by omega)
    rw [e1] at e2; cases e2
  · exact hq

theorem getD_snoc' (ds : List Int) (c : Int) (j : Nat) : (ds ++ [c]).getD j 0 = if j < ds.length then ds.getD j 0 else if j = ds.length then c else 0 := by
  simp only [List.getD, List.getElem?_append]
  split
  · rfl
  · split
    · rename_i h; subst h; simp
    · rw [List.getElem?_eq_none (by simp; omega)]; rfl
theorem run_step {B n k C : Nat} {c : Int} {ds zp : List Int} {w3 : World} (hdl : ds.length = k) (hdv : ∀ j, j < k → isSp (ds.getD j 0) = true) (hcv : isSp c = true)
    (hown : w3.ownsRow B 5 1 (.slice (some ⟨B, 0, none⟩) (n + k + 1) C) (n + k + 1) (bytes (zp ++ ds) ++ [.int .u8 c])) :
    ∃ ds' : List Int, ds'.length = k + 1 ∧ (∀ j, j < k + 1 → isSp (ds'.getD j 0) = true) ∧ w3.ownsRow B 5 1 (.slice (some ⟨B, 0, none⟩) (n + (k + 1)) C) (n + (k + 1)) (bytes (zp ++ ds')) := by
  refine ⟨ds ++ [c], by simp [hdl], fun j hj => ?_, ?_⟩
  · rw [getD_snoc', hdl]
    by_cases h : j < k
    · rw [if_pos h]; exact hdv j h
    · rw [if_neg h, if_pos (by omega)]; exact hcv
  · have e : bytes (zp ++ (ds ++ [c])) = bytes (zp ++ ds) ++ [.int .u8 c] := by simp [bytes]
    rw [e]; exact hown

set_option maxHeartbeats 1000000 in
theorem run_main (a b c : Option Addr) (n cn m cm r cr : Nat) (zp zk zr : List Int) (w : World) (hn : n ≤ 262144) (hm : m ≤ 262144) (hr : r ≤ 262144)
    (hP : Src w a n cn zp) (hK : Src w b m cm zk) (hR : Src w c r cr zr) (hkb : ∀ j, 0 ≤ zk.getD j 0 ∧ zk.getD j 0 ≤ 255) (hno : 0 < zr.length → isSp (zr.getD 0 0) = false) :
    Calls Try.prog 6 #[.slice a n cn, .slice b m cm, .slice c r cr] w fun e w' => e = .returned (.bool true) ∧ Below w.heap.size w w' := by
  obtain ⟨i0, hi, hz0, hz1, hz2⟩ := info_parts Try.info5
  have HP : Hid (Src w a n cn zp) := hP
  have HK : Hid (Src w b m cm zk) := hK
  have HR : Hid (Src w c r cr zr) := hR
  have HKB : Hid (∀ j, 0 ≤ zk.getD j 0 ∧ zk.getD j 0 ≤ 255) := hkb
  have HNO : Hid (0 < zr.length → isSp (zr.getD 0 0) = false) := hno
  have hcase : r < 1 ∨ ∃ yb yo z, c = some ⟨yb, yo, none⟩ ∧ 0 < r ∧ w.cell? ⟨yb, yo, none⟩ = some (.int .u8 z) ∧ isSp z = false := by
    by_cases h0 : r = 0
    · exact .inl (by omega)
    · obtain ⟨yb, yo, h1, h2, _⟩ := hR.at (j := 0) (by omega)
      exact .inr ⟨yb, yo, _, h1, by omega, h2, hno (by rw [hR.1]; omega)⟩
  clear hP hK hR hkb hno
  rcases hcase with hr0 | ⟨yb, yo, z, rfl, hr0, hcz, hsz⟩
  · have j0 : decide ((0 : Int) < (r : Int)) = false := decide_eq_false (by omega)
    go_enter Try.func6, Try.ntmps6
    go_wp2_with (first
      | (go_at_call 15; refine (zzb15_yes _ _ _ _ _ _ _ _ _ _ (by omega)).mono ?_; rintro e w' ⟨rfl, rfl⟩)
      | (go_at_call 14; refine (space_any _ _).mono ?_; rintro e w' ⟨rfl, rfl⟩)
      | (at_make; refine wpList_make_own _ rfl _ _ 22 rfl w.heap.size 5 i0 (.int .u8 0) 1 Try.underlying22 hi hz0 hz1 .i64 .i64 _ (n + m + r) rfl rfl (by omega) (by rw [hz2]; omega) (by unfold maxLen; omega) (Nat.le_refl _) ?_; intro w1 hown1 hg1; have hb1 : Below w.heap.size w w1 := (Below.refl _ _).grown hg1 (Nat.le_refl _) (fun k h => by simp at h))
      | (at_builtin; refine wpList_append_fits_any _ rfl (.tmp 42) (.tmp 43) 22 rfl w.heap.size 5 i0 1 Try.underlying22 hi hz1 w.heap.size 0 (n + m + r) [] rfl hown1 a n cn (bytes zp) rfl (by rw [bytes_length, HP.out.1]; omega) HP.out.2.1 (HP.out.news hb1) (bytes_one _) (by omega) ?_; intro w2 hown2 hg2; simp only [Nat.zero_add, List.nil_append] at hown2; have hb2 : Below w.heap.size w w2 := hb1.grown hg2 hb1.size (fun k h => by simp at h; omega)))
    clear hown1 hg1 hg2
    go_loopw [7, 8] (fun d i wr => ∃ (k : Nat) (ds : List Int), k ≤ m ∧ i = .int .i64 k ∧ ds.length = k ∧ (∀ j, j < k → isSp (ds.getD j 0) = true) ∧
        d = .slice (some ⟨w.heap.size, 0, none⟩) (n + k) (n + m + r) ∧ wr.ownsRow w.heap.size 5 1 (.slice (some ⟨w.heap.size, 0, none⟩) (n + k) (n + m + r)) (n + k) (bytes (zp ++ ds)) ∧ Below w.heap.size w wr)
      (fun _ i _ => m - (intOf i).toNat)
    case atStart => exact ⟨0, [], by omega, rfl, rfl, fun j h => by omega, rfl, by simpa using hown2, hb2⟩
    case round =>
      clear hown2 hb2
      obtain ⟨k, ds, hk, rfl, hdl, hdv, rfl, hown, hbr⟩ := hrel
      have HDL : Hid (ds.length = k) := hdl
      have HDV : Hid (∀ j, j < k → isSp (ds.getD j 0) = true) := hdv
      have HO : Hid (wr.ownsRow w.heap.size 5 1 (.slice (some ⟨w.heap.size, 0, none⟩) (n + k) (n + m + r)) (n + k) (bytes (zp ++ ds))) := hown
      clear hdl hdv hown
      by_cases hlt : k < m
      · obtain ⟨kb, ko, rfl, hkc, hkl⟩ := HK.out.at hlt
        have hkc' : wr.cell? ⟨kb, ko + k, none⟩ = some (.int .u8 (zk.getD k 0)) := by rw [hbr.cell hkl]; exact hkc
        have hkk := HKB.out k
        obtain ⟨g, hg⟩ : ∃ g, g = zk.getD k 0 := ⟨_, rfl⟩
        rw [← hg] at hkc' hkk
        clear hg hkc
        go_wp2_with (first
          | (go_at_call 16; refine (kind_any _ _ hkk).mono ?_; rintro e w' ⟨c, rfl, hcv, rfl⟩)
          | (at_builtin; refine wpList_append_fits _ rfl (.tmp 51) (.tmp 57) 22 rfl w.heap.size 5 i0 1 Try.underlying22 hi hz1 w.heap.size (n + k) (n + m + r) (bytes (zp ++ ds)) rfl (HO.out.alloc _) ⟨wr.heap.size, 0, none⟩ 1 1 [.int .u8 c] rfl rfl (cell_one_new _ _ _) (fun u hu => by simp at hu; subst hu; rfl) (by omega) ?_; intro w3 hown3 hg3; have hb3 : Below w.heap.size w w3 := (hbr.alloc hbr.size _).grown hg3 (by have := hbr.size; simp; omega) (fun k h => by simp at h; omega)))
        go_roundw
        case rel =>
          obtain ⟨ds', q1, q2, q4⟩ := run_step (n := n) (k := k) (C := n + m + r) HDL.out HDV.out hcv.out hown3
          exact ⟨k + 1, ds', by omega, by go_num, q1, q2, rfl, q4, hb3⟩
        case measure => simp [intOf]; omega
      · obtain rfl : k = m := by omega
        have HB : Hid (Built zp ds zr n k) := ⟨HP.out.1, HDL.out, HDV.out, HNO.out⟩
        have HL : Hid ((zp ++ ds ++ zr).length = n + k + r) := by
          have h1 := HP.out.1
          have h2 := HDL.out
          have h3 := HR.out.1
          show _ = _
          simp only [List.length_append]; omega
        go_wp2_with (at_builtin; refine wpList_append_fits_any _ rfl (.tmp 59) (.tmp 60) 22 rfl w.heap.size 5 i0 1 Try.underlying22 hi hz1 w.heap.size (n + k) (n + k + r) (bytes (zp ++ ds)) rfl HO.out _ r cr (bytes zr) rfl (by rw [bytes_length, HR.out.1]; omega) HR.out.2.1 (HR.out.news hbr) (bytes_one _) (by omega) ?_; intro w4 hown4 hg4; have hb4 : Below w.heap.size w w4 := hbr.grown hg4 hbr.size (fun k h => by simp at h; omega))
        rw [← bytes_append] at hown4
        have hlt4 := own_lt hown4
        have HC4 : Hid (∀ j, j < n + k + r → w4.cell? ⟨w.heap.size, 0 + j, none⟩ = some (.int .u8 ((zp ++ ds ++ zr).getD j 0))) := fun j hj => by rw [Nat.zero_add]; exact own_byte hown4 j (by rw [HL.out]; exact hj)
        clear hown4 hg4 HO
        refine (zzskip_in w.heap.size 0 (n + k + r) (n + k + r) n (zp ++ ds ++ zr) _ (by omega) (by omega) HL.out hlt4 HC4.out).mono ?_
        rintro e w5 ⟨q, hq, rfl, hb5⟩
        obtain rfl := HB.out.lands (Nat.le_refl _) (by omega) hq
        have HC5 : Hid (∀ j, j < n + k + r → w5.cell? ⟨w.heap.size, 0 + j, none⟩ = some (.int .u8 ((zp ++ ds ++ zr).getD j 0))) := fun j hj => by rw [hb5.cell hlt4]; exact HC4.out j hj
        have hlt5 : w.heap.size < w5.heap.size := Nat.lt_of_lt_of_le hlt4 hb5.size
        clear hq
        go_wp2_with fail
        have key := zzskip_in w.heap.size 0 (n + k + r) (n + k + r) (n + k) (zp ++ ds ++ zr) w5 (by omega) (by omega) HL.out hlt5 HC5.out
        simp only [Int.natCast_add] at key
        refine key.mono ?_
        clear key
        rintro e w6 ⟨q, hq, rfl, hb6⟩
        obtain rfl := HB.out.lands (by omega) (Nat.le_refl _) hq
        clear hq HC5 HC4
        go_wp2
        go_ret
        exact ⟨rfl, (hb4.trans (hb5.mono hb4.size)).trans (hb6.mono (Nat.le_trans hb4.size hb5.size))⟩
  · have j0 : (0 : Int) < (r : Int) := by omega
    go_enter Try.func6, Try.ntmps6
    go_wp2_with (first
      | (go_at_call 15; refine (zzb15_yes _ _ _ _ _ _ _ _ _ _ (by omega)).mono ?_; rintro e w' ⟨rfl, rfl⟩)
      | (go_at_call 14; refine (space_any _ _).mono ?_; rintro e w' ⟨rfl, rfl⟩)
      | (at_make; refine wpList_make_own _ rfl _ _ 22 rfl w.heap.size 5 i0 (.int .u8 0) 1 Try.underlying22 hi hz0 hz1 .i64 .i64 _ (n + m + r) rfl rfl (by omega) (by rw [hz2]; omega) (by unfold maxLen; omega) (Nat.le_refl _) ?_; intro w1 hown1 hg1; have hb1 : Below w.heap.size w w1 := (Below.refl _ _).grown hg1 (Nat.le_refl _) (fun k h => by simp at h))
      | (at_builtin; refine wpList_append_fits_any _ rfl (.tmp 42) (.tmp 43) 22 rfl w.heap.size 5 i0 1 Try.underlying22 hi hz1 w.heap.size 0 (n + m + r) [] rfl hown1 a n cn (bytes zp) rfl (by rw [bytes_length, HP.out.1]; omega) HP.out.2.1 (HP.out.news hb1) (bytes_one _) (by omega) ?_; intro w2 hown2 hg2; simp only [Nat.zero_add, List.nil_append] at hown2; have hb2 : Below w.heap.size w w2 := hb1.grown hg2 hb1.size (fun k h => by simp at h; omega)))
    clear hown1 hg1 hg2
    go_loopw [7, 8] (fun d i wr => ∃ (k : Nat) (ds : List Int), k ≤ m ∧ i = .int .i64 k ∧ ds.length = k ∧ (∀ j, j < k → isSp (ds.getD j 0) = true) ∧
        d = .slice (some ⟨w.heap.size, 0, none⟩) (n + k) (n + m + r) ∧ wr.ownsRow w.heap.size 5 1 (.slice (some ⟨w.heap.size, 0, none⟩) (n + k) (n + m + r)) (n + k) (bytes (zp ++ ds)) ∧ Below w.heap.size w wr)
      (fun _ i _ => m - (intOf i).toNat)
    case atStart => exact ⟨0, [], by omega, rfl, rfl, fun j h => by omega, rfl, by simpa using hown2, hb2⟩
    case round =>
      clear hown2 hb2
      obtain ⟨k, ds, hk, rfl, hdl, hdv, rfl, hown, hbr⟩ := hrel
      have HDL : Hid (ds.length = k) := hdl
      have HDV : Hid (∀ j, j < k → isSp (ds.getD j 0) = true) := hdv
      have HO : Hid (wr.ownsRow w.heap.size 5 1 (.slice (some ⟨w.heap.size, 0, none⟩) (n + k) (n + m + r)) (n + k) (bytes (zp ++ ds))) := hown
      clear hdl hdv hown
      by_cases hlt : k < m
      · obtain ⟨kb, ko, rfl, hkc, hkl⟩ := HK.out.at hlt
        have hkc' : wr.cell? ⟨kb, ko + k, none⟩ = some (.int .u8 (zk.getD k 0)) := by rw [hbr.cell hkl]; exact hkc
        have hkk := HKB.out k
        obtain ⟨g, hg⟩ : ∃ g, g = zk.getD k 0 := ⟨_, rfl⟩
        rw [← hg] at hkc' hkk
        clear hg hkc
        go_wp2_with (first
          | (go_at_call 16; refine (kind_any _ _ hkk).mono ?_; rintro e w' ⟨c, rfl, hcv, rfl⟩)
          | (at_builtin; refine wpList_append_fits _ rfl (.tmp 51) (.tmp 57) 22 rfl w.heap.size 5 i0 1 Try.underlying22 hi hz1 w.heap.size (n + k) (n + m + r) (bytes (zp ++ ds)) rfl (HO.out.alloc _) ⟨wr.heap.size, 0, none⟩ 1 1 [.int .u8 c] rfl rfl (cell_one_new _ _ _) (fun u hu => by simp at hu; subst hu; rfl) (by omega) ?_; intro w3 hown3 hg3; have hb3 : Below w.heap.size w w3 := (hbr.alloc hbr.size _).grown hg3 (by have := hbr.size; simp; omega) (fun k h => by simp at h; omega)))
        go_roundw
        case rel =>
          obtain ⟨ds', q1, q2, q4⟩ := run_step (n := n) (k := k) (C := n + m + r) HDL.out HDV.out hcv.out hown3
          exact ⟨k + 1, ds', by omega, by go_num, q1, q2, rfl, q4, hb3⟩
        case measure => simp [intOf]; omega
      · obtain rfl : k = m := by omega
        have HB : Hid (Built zp ds zr n k) := ⟨HP.out.1, HDL.out, HDV.out, HNO.out⟩
        have HL : Hid ((zp ++ ds ++ zr).length = n + k + r) := by
          have h1 := HP.out.1
          have h2 := HDL.out
          have h3 := HR.out.1
          show _ = _
          simp only [List.length_append]; omega
        go_wp2_with (at_builtin; refine wpList_append_fits_any _ rfl (.tmp 59) (.tmp 60) 22 rfl w.heap.size 5 i0 1 Try.underlying22 hi hz1 w.heap.size (n + k) (n + k + r) (bytes (zp ++ ds)) rfl HO.out _ r cr (bytes zr) rfl (by rw [bytes_length, HR.out.1]; omega) HR.out.2.1 (HR.out.news hbr) (bytes_one _) (by omega) ?_; intro w4 hown4 hg4; have hb4 : Below w.heap.size w w4 := hbr.grown hg4 hbr.size (fun k h => by simp at h; omega))
        rw [← bytes_append] at hown4
        have hlt4 := own_lt hown4
        have HC4 : Hid (∀ j, j < n + k + r → w4.cell? ⟨w.heap.size, 0 + j, none⟩ = some (.int .u8 ((zp ++ ds ++ zr).getD j 0))) := fun j hj => by rw [Nat.zero_add]; exact own_byte hown4 j (by rw [HL.out]; exact hj)
        clear hown4 hg4 HO
        refine (zzskip_in w.heap.size 0 (n + k + r) (n + k + r) n (zp ++ ds ++ zr) _ (by omega) (by omega) HL.out hlt4 HC4.out).mono ?_
        rintro e w5 ⟨q, hq, rfl, hb5⟩
        obtain rfl := HB.out.lands (Nat.le_refl _) (by omega) hq
        have HC5 : Hid (∀ j, j < n + k + r → w5.cell? ⟨w.heap.size, 0 + j, none⟩ = some (.int .u8 ((zp ++ ds ++ zr).getD j 0))) := fun j hj => by rw [hb5.cell hlt4]; exact HC4.out j hj
        have hlt5 : w.heap.size < w5.heap.size := Nat.lt_of_lt_of_le hlt4 hb5.size
        clear hq
        go_wp2_with fail
        have key := zzskip_in w.heap.size 0 (n + k + r) (n + k + r) (n + k) (zp ++ ds ++ zr) w5 (by omega) (by omega) HL.out hlt5 HC5.out
        simp only [Int.natCast_add] at key
        refine key.mono ?_
        clear key
        rintro e w6 ⟨q, hq, rfl, hb6⟩
        obtain rfl := HB.out.lands (by omega) (Nat.le_refl _) hq
        clear hq HC5 HC4
        go_wp2
        go_ret
        exact ⟨rfl, (hb4.trans (hb5.mono hb4.size)).trans (hb6.mono (Nat.le_trans hb4.size hb5.size))⟩
end Go.Proofs.Qxb6600845a
