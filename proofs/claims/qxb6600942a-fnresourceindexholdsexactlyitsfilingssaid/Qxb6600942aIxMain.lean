import Derived.Test.Qxb6600942aIxChk
import Derived.Test.Qxb6600942aFilValid
namespace Go.Proofs.Qxb6600942a
open Go.RowKit
set_option linter.unusedVariables false

/-- What is asked of buildIndex. -/
def Builds (n : Nat) (fs : List Fil) : Prop := ∀ (a : Option Addr) (W : World), Fils W a n n fs → n ≤ 65536 → Valid fs →
  Calls Try.prog 18 #[.slice a n n] W fun e w' => ∃ a1 n1 c1 a2 n2 c2, e = .returned (ixo a1 n1 c1 a2 n2 c2) ∧ Hid (IxOut w' n fs (.slice a1 n1 c1) (.slice a2 n2 c2)) ∧ Below W.heap.size W w'

theorem small_wrapA (k : Nat) (h : k ≤ 65536) : wrap64 (k : Int) = (k : Int) := by unfold wrap64; omega
theorem small_wrapB (k : Nat) (h : k ≤ 65536) : IntKind.i64.wrap (k : Int) = (k : Int) := by rw [IntKind.wrap_i64]; omega
theorem pred_facts {i L : Nat} (hi0 : ¬ i = 0) (hil : i < L) (hL : L ≤ 65536) : ∃ k0 : Nat, Hid (i = k0 + 1) ∧ k0 < L ∧ (i : Int) - 1 = (k0 : Int) ∧ wrap64 (k0 : Int) = (k0 : Int) ∧ IntKind.i64.wrap (k0 : Int) = (k0 : Int) ∧ (0 : Int) ≤ (k0 : Int) ∧ (0 : Int) < (i : Int) ∧ 0 < i ∧ (k0 : Int) < L :=
  ⟨i - 1, (show i = i - 1 + 1 by omega), by omega, by omega, small_wrapA _ (by omega), small_wrapB _ (by omega), by omega, by omega, by omega, by omega⟩
theorem neg_dec {x : Int} (h : x < 0) : decide (0 ≤ x) = false := decide_eq_false (by omega)
theorem ne0_beq {r : Nat} (h : 0 < r) : ((r : Int) == 0) = false := by rw [beq_eq_false_iff_ne]; omega
theorem nat_cast_lt {i L : Nat} (h : i < L) : (i : Int) < (L : Int) := by omega
theorem int_succ (i : Nat) : Value.int .i64 ((i : Int) + 1) = .int .i64 ((i + 1 : Nat) : Int) := rfl
theorem int_plus (i k : Nat) : Value.int .i64 ((i : Int) + (k : Int)) = .int .i64 ((i + k : Nat) : Int) := rfl
theorem meas_dec {i L : Nat} (h : i < L) : L - (intOf (.int .i64 ((i : Int) + 1))).toNat < L - (intOf (.int .i64 (i : Int))).toNat := by simp [intOf]; omega
theorem eq_of_le_not {i L : Nat} (h : i ≤ L) (h' : ¬ i < L) : i = L := by omega
theorem neg_one_lt (a : Nat) : ¬ (a : Int) ≤ -1 := by omega
theorem size_lt_le {a b : Nat} {pl : Int} (h1 : pl = a) (h2 : a < b) : ¬ (b : Int) ≤ pl := by omega
section sums
variable {fs : List Fil} {n : Nat} {σ : St} {b j i : Nat}
/-- How many entries lie ahead of bucket b, of group j in it, of list i in that. -/
def cB (σ : St) (b : Nat) : Nat := tot (fun i => (σ.bk i).count) b
def cG (σ : St) (b j : Nat) : Nat := tot (fun g => lsum (σ.rs b g)) j
def cL (σ : St) (b j i : Nat) : Nat := tot (fun q => (rg (σ.rs b j) q).2) i
theorem cL_succ : cL σ b j (i + 1) = cL σ b j i + (rg (σ.rs b j) i).2 := rfl
theorem cG_succ (hP : IxP fs n σ) (hb : b < σ.nb) (hj : j < σ.no b) : cG σ b (j + 1) = cG σ b j + cL σ b j (σ.ps b j).length := by
  have hG : GrpOk fs n (σ.ps b j) (σ.rs b j) := (hP.bk b hb).grp j hj
  rw [← hG.len]; rfl
theorem cB_succ : cB σ (b + 1) = cB σ b + itlen (σ.it b) + cG σ b (σ.no b) := by
  show _ + (_ + _) = _
  rw [Nat.add_assoc]; rfl
theorem cB_le (hP : IxP fs n σ) (hb : b ≤ σ.nb) : cB σ b ≤ n := by
  have h1 := hP.cnt
  have h2 : cB σ b ≤ cB σ σ.nb := tot_le hb
  exact Nat.le_trans h2 (Nat.le_of_eq h1)
theorem cG_le (hP : IxP fs n σ) (hb : b < σ.nb) (hj : j ≤ σ.no b) : cB σ b + itlen (σ.it b) + cG σ b j ≤ n := by
  have h1 := cB_le hP (b := b + 1) (by omega)
  have h2 : cG σ b j ≤ cG σ b (σ.no b) := tot_le hj
  rw [cB_succ] at h1; omega
theorem cL_le (hP : IxP fs n σ) (hb : b < σ.nb) (hj : j < σ.no b) (hi : i ≤ (σ.ps b j).length) : cB σ b + itlen (σ.it b) + cG σ b j + cL σ b j i ≤ n := by
  have h1 := cG_le hP hb (j := j + 1) (by omega)
  have h2 : cL σ b j i ≤ cL σ b j (σ.ps b j).length := tot_le hi
  rw [cG_succ hP hb hj] at h1; omega
end sums

set_option maxRecDepth 100000 in
set_option maxHeartbeats 1500000 in
theorem main_any (a : Option Addr) (n cap : Nat) (fs : List Fil) (w : World) (hS : Fils w a n cap fs) (hn : n ≤ maxLen) (hbd : Builds n fs) :
    Calls Try.prog 5 #[.slice a n cap] w fun e w' => e = .returned (.bool true) ∧ Below w.heap.size w w' := by
  have HS : Hid (Fils w a n cap fs) := hS
  have HBD : Hid (Builds n fs) := hbd
  have hn' := hn
  unfold maxLen at hn'
  clear hS hbd
  go_enter Try.func5, Try.ntmps5
  go_wp2_with fail
  refine (bytes14_any a n cap fs _ HS.out hn).mono ?_
  rintro e w' ⟨hres, rfl⟩
  rcases hres with rfl | ⟨rfl, hbd⟩
  · go_wp2
    go_ret
    exact ⟨rfl, Below.refl _ _⟩
  by_cases hbig : 65536 < n
  · go_wp2
    go_ret
    exact ⟨rfl, Below.refl _ _⟩
  clear hn
  go_wp2_with fail
  refine (fbytes_any a n cap fs _ HS.out (by omega)).mono ?_
  rintro e w1 ⟨⟨T, rfl⟩, m, rfl⟩
  by_cases hT : (1048576 : Int) < T
  · go_wp2
    go_ret
    exact ⟨rfl, below_drewN (Below.refl _ _) _⟩
  have HS1 : Hid (Fils (w.drewN m) a n cap fs) := HS.out.later (below_drewN (Below.refl _ _) _) (Nat.le_refl _)
  have HB1 : Hid (Below w.heap.size w (w.drewN m)) := below_drewN (Below.refl _ _) _
  generalize w.drewN m = w1 at *
  go_wp2_with fail
  refine (valid_any a n cap fs _ HS1.out (by omega)).mono ?_
  rintro e w2 ⟨hres, hb2⟩
  rcases hres with rfl | ⟨rfl, HV⟩
  · go_wp2
    go_ret
    exact ⟨rfl, Aft.next HB1.out hb2⟩
  have HS2 : Hid (Fils w2 a n cap fs) := HS1.out.later hb2 (Nat.le_refl _)
  have HB2 : Hid (Below w.heap.size w w2) := Aft.next HB1.out hb2
  clear HB1 HS1 hb2 HS
  go_wp2_with fail
  refine (fclone_any a n cap fs _ HS2.out (by omega)).mono ?_
  rintro e w3 ⟨af, rfl, hS3, hb3⟩
  have HS3 : Hid (Fils w3 af n n fs) := hS3
  have HB3 : Hid (Below w.heap.size w w3) := Aft.next HB2.out hb3
  clear HB2 HS2 hb3 hS3
  go_wp2_with fail
  refine (HBD.out af w3 HS3.out (by omega) HV.out).mono ?_
  rintro e w4 ⟨a1, n1, c1, a2, n2, c2, rfl, HO, hb4⟩
  have HS4 : Hid (Fils w4 af n n fs) := HS3.out.later hb4 (Nat.le_refl _)
  have HB4 : Hid (Below w.heap.size w w4) := Aft.next HB3.out hb4
  clear HB3 HS3 hb4 HBD
  go_upto_region 11 with fail
  obtain ⟨Wx, hWx⟩ : ∃ Wx, Wx = w4.alloc (.cells #[.slice none 0 0, .slice a1 n1 c1, .slice a2 n2 c2] 39) := ⟨_, rfl⟩
  have hbx : Below w4.heap.size w4 Wx := by rw [hWx]; exact below_alloc _ _
  have hxs : ∀ W, Aft Wx W → W.cell? ⟨w4.heap.size, 0, none⟩ = some (.slice none 0 0) ∧ W.cell? ⟨w4.heap.size, 1, none⟩ = some (.slice a1 n1 c1) ∧ W.cell? ⟨w4.heap.size, 2, none⟩ = some (.slice a2 n2 c2) ∧ w4.heap.size < W.heap.size := by
    intro W hW
    have hlt : w4.heap.size < Wx.heap.size := by rw [hWx]; simp
    have hc := cells_of_block (w := W) (b := w4.heap.size) (x := .slice none 0 0) (y := .slice a1 n1 c1) (z := .slice a2 n2 c2) (t := 39) (by rw [hW.block _ hlt, hWx]; exact heap_alloc_new _ _)
    exact ⟨hc.1, hc.2.1, hc.2.2, Nat.lt_of_lt_of_le hlt hW.size⟩
  obtain ⟨σ, hC⟩ := chk_of HO.out hbx hxs (HS4.out.later hbx (Nat.le_refl _)) (by omega) (by omega)
  have HAX : Hid (Below w.heap.size w Wx) := Aft.next HB4.out hbx
  have HAX0 : Hid (Aft Wx Wx) := Below.refl _ _
  rw [← hWx]
  generalize w4.heap.size = xb at *
  obtain rfl := hC.hn1
  obtain rfl := hC.hn2
  have HC : Hid (Chk Wx xb a1 σ.nb c1 a2 σ.nb c2 n fs af σ) := hC
  clear hC HO HS4 HB4 hWx hbx hxs HV w1 w2 w3 w4 hT
  have hnbn := HC.out.inv.nb
  have hfz : flen fs ≤ 1048576 := by omega
  have hn6 : n ≤ 65536 := by omega
  clear hbig hn' hbd
  obtain ⟨x0, x1, x2, xs⟩ := HC.out.box _ HAX0.out
  go_wp2_with fail
  refine (HC.out.c19 _ HAX0.out).mono ?_
  rintro e w5 ⟨rfl, HB5⟩
  clear x0 x1 x2 xs
  obtain ⟨x0, x1, x2, xs⟩ := HC.out.box _ HB5.out
  go_wp2_with fail
  refine (HC.out.c20 _ HB5.out).mono ?_
  rintro e w6 ⟨rfl, HB6⟩
  clear x0 x1 x2 xs HB5
  obtain ⟨x0, x1, x2, xs⟩ := HC.out.box _ HB6.out
  go_wp2_with fail
  refine (HC.out.c21 _ HB6.out).mono ?_
  rintro e w7 ⟨rfl, HB7⟩
  clear x0 x1 x2 xs HB6
  go_wp2
  go_loopw [6, 7] (fun v6 v7 wr => ∃ b E : Nat, b ≤ σ.nb ∧ v7 = .int .i64 b ∧ v6 = .int .i64 E ∧ Hid (cB σ b = E) ∧ Hid (Aft Wx wr)) (fun _ v7 _ => σ.nb - (intOf v7).toNat)
  case atStart => exact ⟨0, 0, by omega, rfl, rfl, rfl, HB7⟩
  case round =>
    clear HB7
    obtain ⟨b, E, hb, rfl, rfl, HE, HB⟩ := hrel
    by_cases hlt : b < σ.nb
    · obtain ⟨yb, rfl, hcb⟩ := HC.out.cb (by omega)
      have HCB : Hid (∀ W, Aft Wx W → yb < W.heap.size ∧ ∀ i, i < σ.nb → W.cell? ⟨yb, i, none⟩ = some (.string (nm σ.N i))) := hcb
      clear hcb
      have ib : (b : Int) < σ.nb := by omega
      go_upto_region 21 with fail
      go_cut [64] from 45 to 158 (fun c wy => c = .bool false ∧ Hid (Aft Wx wy))
      case first =>
        --<A
        by_cases hb0 : b = 0
        · subst hb0
          have hgd : decide ((0 : Int) < 0) = false := by decide
          go_quiet (fail)
          go_wp2
          go_meet
          case rel => exact ⟨rfl, HB.out.drewN _⟩
        · obtain ⟨k0, HK0, hk0n, hri, hw1, hw2, hn0, hb0', hbp, j0⟩ := pred_facts hb0 hlt (Nat.le_trans hnbn hn6)
          obtain ⟨hyl, hcc⟩ := HCB.out _ HB.out
          have e0 := hcc k0 hk0n
          have e1 := hcc b hlt
          have z0' : (nm σ.N k0).size ≤ 1048576 := Nat.le_trans (HC.out.inv.small k0 hk0n) hfz
          have z1' : (nm σ.N b).size ≤ 1048576 := Nat.le_trans (HC.out.inv.small b hlt) hfz
          have hcm : decide (0 ≤ cmpT (nm σ.N k0) (nm σ.N b)) = false := by
            have := HC.out.inv.rise k0 (by rw [← HK0.out]; exact hlt)
            rw [← HK0.out] at this
            exact neg_dec this
          clear hcc
          generalize nm σ.N k0 = t0 at *
          generalize nm σ.N b = t1 at *
          go_quiet ((go_at_call 22; exact Calls.quiet_of (compare_any _ _ _ z0' z1')))
          go_wp2
          go_meet
          case rel => exact ⟨rfl, HB.out.drewN _⟩
        --A>
      case rest =>
        obtain ⟨rfl, HB1⟩ := hcut
        clear HB
        obtain ⟨x0, x1, x2, xs⟩ := HC.out.box _ HB1.out
        obtain ⟨ai, C23, C24⟩ := HC.out.c23 b hlt
        have H24 : Hid (∀ W, Aft Wx W → Calls Try.prog 24 #[.slice ai (itlen (σ.it b)) (itlen (σ.it b))] W fun e w' => e = .returned (.bool true) ∧ Hid (Aft Wx w')) := C24
        have HFULL : Hid (¬ (itlen (σ.it b) = 0 ∧ σ.no b = 0)) := by
          rintro ⟨h1, h2⟩
          cases hit : σ.it b with
          | none => have := HC.out.inv.full b hlt hit; change 0 < σ.no b at this; omega
          | some r => have := ((HC.out.inv.bk b hlt).it r hit).1; rw [hit] at h1; change r.2 = 0 at h1; omega
        have HLE : Hid (E + itlen (σ.it b) ≤ n) := by
          have := cG_le HC.out.inv hlt (j := 0) (by omega)
          rw [HE.out] at this
          exact Nat.le_trans (Nat.le_add_right _ _) this
        have HBN : Hid (∀ j, j ≤ σ.no b → E + itlen (σ.it b) + cG σ b j ≤ n) := fun j hj => by
          have := cG_le HC.out.inv hlt hj
          rw [HE.out] at this; exact this
        have HBN3 : Hid (∀ j i, j < σ.no b → i ≤ (σ.ps b j).length → E + itlen (σ.it b) + cG σ b j + cL σ b j i ≤ n) := fun j i hj hi => by
          have := cL_le HC.out.inv hlt hj hi
          rw [HE.out] at this; exact this
        have HNXT : Hid (cB σ (b + 1) = E + itlen (σ.it b) + cG σ b (σ.no b)) := by show _ = _; rw [cB_succ, HE.out]
        clear C24
        generalize itlen (σ.it b) = li at *
        have hli : E + li ≤ 65536 := Nat.le_trans HLE.out hn6
        go_wp2_with fail
        refine (C23 _ HB1.out).mono ?_
        rintro e w8 ⟨rfl, HB2⟩
        clear C23 HB1 x0 x1 x2 xs
        go_wp2_with fail
        refine (H24.out _ HB2.out).mono ?_
        rintro e w9 ⟨rfl, HB3⟩
        clear H24 HB2
        obtain ⟨x0, x1, x2, xs⟩ := HC.out.box _ HB3.out
        go_wp2_with fail
        refine (HC.out.c25 b hlt _ HB3.out).mono ?_
        rintro e w10 ⟨rfl, HB4⟩
        clear HB3 x0 x1 x2 xs
        go_upto_region 28 with fail
        go_cut [84] from 45 to 158 (fun c wy => c = .bool false ∧ Hid (Aft Wx wy))
        case first =>
          by_cases h0 : li = 0
          · have q1 : ((li : Int) == 0) = true := by rw [beq_iff_eq]; omega
            have q2 : ((σ.no b : Int) == 0) = false := by
              rw [beq_eq_false_iff_ne]; intro h; exact HFULL.out ⟨h0, by omega⟩
            have q3 : ¬ σ.no b = 0 := fun h => HFULL.out ⟨h0, h⟩
            clear h0
            go_wp2
            go_meet
            case rel => exact ⟨rfl, HB4⟩
          · have q1 : ((li : Int) == 0) = false := by rw [beq_eq_false_iff_ne]; omega
            go_wp2
            go_meet
            case rel => exact ⟨rfl, HB4⟩
        case rest =>
          obtain ⟨rfl, HB5⟩ := hcut
          clear HB4 HFULL HLE
          have hnob : σ.no b ≤ 65536 := Nat.le_trans (HC.out.inv.bk b hlt).few hn6
          go_wp2
          go_loopw [6, 10, 11] (fun v6 v10 v11 wr => ∃ (j F : Nat) (pl : Int), j ≤ σ.no b ∧ v11 = .int .i64 j ∧ v10 = .int .i64 pl ∧ v6 = .int .i64 F ∧ Hid (E + li + cG σ b j = F) ∧ Hid (∀ j', j' + 1 = j → pl = (nm (σ.ps b j') 0).size) ∧ Hid (j = 0 → pl = -1) ∧ Hid (Aft Wx wr)) (fun _ _ v11 _ => σ.no b - (intOf v11).toNat)
          case atStart => exact ⟨0, E + li, -1, Nat.zero_le _, rfl, rfl, int_plus E li, rfl, (fun j' h => absurd h (Nat.succ_ne_zero j')), (fun _ => rfl), HB5⟩
          case round =>
            clear HB5
            obtain ⟨j, F, pl, hj, rfl, rfl, rfl, HF, HPL, HPL0, HB⟩ := hrel
            by_cases hjl : j < σ.no b
            · obtain ⟨yp, cp, C26, hcp⟩ := HC.out.c26 b j hlt hjl
              have HCP : Hid (∀ W, Aft Wx W → yp < W.heap.size ∧ ∀ i, i < (σ.ps b j).length → W.cell? ⟨yp, i, none⟩ = some (.string (nm (σ.ps b j) i))) := hcp
              have C27 := HC.out.c27 b j hlt hjl
              have HG : Hid (GrpOk fs n (σ.ps b j) (σ.rs b j)) := (HC.out.inv.bk b hlt).grp j hjl
              have hL0 : 0 < (σ.ps b j).length := HG.out.pos
              have hL6 : (σ.ps b j).length ≤ 65536 := Nat.le_trans HG.out.few hn6
              have HNX : Hid (E + li + cG σ b (j + 1) = F + cL σ b j (σ.ps b j).length) := by
                show _ = _
                rw [cG_succ HC.out.inv hlt hjl, ← HF.out, Nat.add_assoc, Nat.add_assoc, Nat.add_assoc]
              have HWD : Hid (∀ i, i < (σ.ps b j).length → (nm (σ.ps b j) i).size = (nm (σ.ps b j) 0).size) := HG.out.wid
              have hpw : ¬ (((nm (σ.ps b j) 0).size : Nat) : Int) ≤ pl := by
                by_cases h0 : j = 0
                · rw [HPL0.out h0]; exact neg_one_lt _
                · have e1 : j - 1 + 1 = j := Nat.sub_add_cancel (Nat.pos_of_ne_zero h0)
                  have h1 := HPL.out (j - 1) e1
                  have h2 := (HC.out.inv.bk b hlt).rise (j - 1) (by change j - 1 + 1 < σ.no b; rw [e1]; exact hjl)
                  change (nm (σ.ps b (j - 1)) 0).size < (nm (σ.ps b (j - 1 + 1)) 0).size at h2
                  rw [e1] at h2
                  exact size_lt_le h1 h2
              have HPL' : Hid (∀ j', j' + 1 = j + 1 → (((nm (σ.ps b j) 0).size : Nat) : Int) = (nm (σ.ps b j') 0).size) := fun j' h => by rw [Nat.succ.inj h]
              have zw : (nm (σ.ps b j) 0).size ≤ 1048576 := Nat.le_trans (HG.out.small 0 hL0) hfz
              clear hcp
              generalize hLL : (σ.ps b j).length = L at *
              have HLL : Hid ((σ.ps b j).length = L) := hLL
              clear hLL
              generalize hwid : (nm (σ.ps b j) 0).size = wid at *
              have HWID : Hid ((nm (σ.ps b j) 0).size = wid) := hwid
              clear hwid
              have ij : (j : Int) < σ.no b := nat_cast_lt hjl
              have iL : (0 : Int) < (L : Int) := nat_cast_lt hL0
              have eL : ((L : Int) == 0) = false := ne0_beq hL0
              obtain ⟨x0, x1, x2, xs⟩ := HC.out.box _ HB.out
              go_wp2_with fail
              refine (C26 _ HB.out).mono ?_
              rintro e w11 ⟨rfl, HB1⟩
              clear C26 HB x0 x1 x2 xs
              obtain ⟨x0, x1, x2, xs⟩ := HC.out.box _ HB1.out
              go_wp2_with fail
              refine (C27 _ HB1.out).mono ?_
              rintro e w12 ⟨rfl, HB2⟩
              clear C27 HB1 x0 x1 x2 xs
              obtain ⟨ypl, hcc⟩ := HCP.out _ HB2.out
              have e0 := hcc 0 hL0
              have s0 : (nm (σ.ps b j) 0).size = wid := HWID.out
              clear hcc
              generalize nm (σ.ps b j) 0 = t0 at e0 s0
              go_wp2
              clear e0 s0 ypl
              go_loopw [6, 14] (fun v6 v14 wr => ∃ (i F3 : Nat), i ≤ L ∧ v14 = .int .i64 i ∧ v6 = .int .i64 F3 ∧ Hid (F + cL σ b j i = F3) ∧ Hid (Aft Wx wr)) (fun _ v14 _ => L - (intOf v14).toNat)
              case atStart => exact ⟨0, F, Nat.zero_le _, rfl, rfl, rfl, HB2⟩
              case round =>
                clear HB2
                obtain ⟨i, F3, hi, rfl, rfl, HF3, HB⟩ := hrel
                by_cases hil : i < L
                · have hiL : i < (σ.ps b j).length := by rw [HLL.out]; exact hil
                  have ii : (i : Int) < L := nat_cast_lt hil
                  obtain ⟨ypl, hcc⟩ := HCP.out _ HB.out
                  have e1 := hcc i hil
                  have s1 : (nm (σ.ps b j) i).size = wid := HWD.out i hil
                  obtain ⟨al, C28, C24⟩ := HC.out.c28 b j i hlt hjl hiL
                  have hr0 : 0 < (rg (σ.rs b j) i).2 := (HG.out.run i hiL).1
                  have HNX3 : Hid (F + cL σ b j (i + 1) = F3 + (rg (σ.rs b j) i).2) := by
                    show _ = _
                    rw [cL_succ, ← HF3.out, Nat.add_assoc]
                  have hF36 : F3 + (rg (σ.rs b j) i).2 ≤ 65536 := by
                    have h1 := HBN3.out j (i + 1) hjl (by rw [HLL.out]; exact hil)
                    rw [HF.out, HNX3.out] at h1
                    exact Nat.le_trans h1 hn6
                  have HRI : Hid (∀ k0, i = k0 + 1 → cmpT (nm (σ.ps b j) k0) (nm (σ.ps b j) i) < 0) := fun k0 h => by
                    rw [h]; exact HG.out.rise k0 (by rw [← h]; exact hiL)
                  have z1 : (nm (σ.ps b j) i).size ≤ 1048576 := by rw [s1]; exact zw
                  generalize rg (σ.rs b j) i = rr at *
                  obtain ⟨r1, r2⟩ := rr
                  dsimp only at C28 C24 hr0 HNX3 hF36
                  have H28 : Hid (∀ W, Aft Wx W → Calls Try.prog 28 #[ixo (some ⟨yb, 0, none⟩) σ.nb c1 a2 σ.nb c2, .int .i64 b, .int .i64 j, .int .i64 i] W fun e w' => e = .returned (.slice al r2 r2) ∧ Hid (Aft Wx w')) := C28
                  have H24 : Hid (∀ W, Aft Wx W → Calls Try.prog 24 #[.slice al r2 r2] W fun e w' => e = .returned (.bool true) ∧ Hid (Aft Wx w')) := C24
                  have er : ((r2 : Int) == 0) = false := ne0_beq hr0
                  clear C28 C24 hiL
                  go_upto_region 46 with fail
                  go_cut [141] from 114 to 158 (fun c wy => c = .bool false ∧ Hid (Aft Wx wy))
                  case first =>
                    by_cases hi0 : i = 0
                    · subst hi0
                      have hgd : decide ((0 : Int) < 0) = false := by decide
                      go_quiet (fail)
                      go_wp2
                      go_meet
                      case rel => exact ⟨rfl, HB.out.drewN _⟩
                    · obtain ⟨k0, HK0, hk0n, hri, hw1, hw2, hn0, hb0', hbp, j0⟩ := pred_facts hi0 hil hL6
                      have e0 := hcc k0 hk0n
                      have hcm : decide (0 ≤ cmpT (nm (σ.ps b j) k0) (nm (σ.ps b j) i)) = false := neg_dec (HRI.out k0 HK0.out)
                      have z0 : (nm (σ.ps b j) k0).size ≤ 1048576 := by rw [HWD.out k0 hk0n]; exact zw
                      clear hcc HRI
                      generalize nm (σ.ps b j) k0 = t0 at e0 z0 hcm
                      generalize nm (σ.ps b j) i = t1 at e1 z1 hcm s1
                      clear s1
                      go_quiet ((go_at_call 22; exact Calls.quiet_of (compare_any _ _ _ z0 z1)))
                      go_wp2
                      go_meet
                      case rel => exact ⟨rfl, HB.out.drewN _⟩
                  case rest =>
                    obtain ⟨rfl, HB1⟩ := hcut
                    clear HB hcc e1 s1 z1 HRI ypl
                    obtain ⟨x0, x1, x2, xs⟩ := HC.out.box _ HB1.out
                    go_wp2_with fail
                    refine (H28.out _ HB1.out).mono ?_
                    rintro e w13 ⟨rfl, HB2⟩
                    clear H28 HB1 x0 x1 x2 xs
                    go_wp2_with fail
                    refine (H24.out _ HB2.out).mono ?_
                    rintro e w14 ⟨rfl, HB3⟩
                    clear H24 HB2
                    go_wp2
                    go_roundw
                    case rel => exact ⟨i + 1, F3 + r2, hil, int_succ i, int_plus F3 r2, HNX3, HB3⟩
                    case measure => exact meas_dec hil
                · obtain rfl : i = L := eq_of_le_not hi hil
                  go_wp2
                  go_roundw
                  case rel => exact ⟨j + 1, F3, _, hjl, int_succ j, rfl, rfl, HNX.out.trans HF3.out, HPL', (fun h => absurd h (Nat.succ_ne_zero j)), HB⟩
                  case measure => exact meas_dec hjl
            · obtain rfl : j = σ.no b := eq_of_le_not hj hjl
              go_wp2
              go_roundw
              case rel => exact ⟨b + 1, F, hlt, int_succ b, rfl, HNXT.out.trans HF.out, HB⟩
              case measure => exact meas_dec hlt
    · --<Z
      obtain rfl : b = σ.nb := eq_of_le_not hb hlt
      obtain rfl : E = n := by rw [← HE.out]; exact HC.out.inv.cnt
      clear hb hlt HE
      go_wp2
      go_loopw [16] (fun v16 wr => ∃ k : Nat, k ≤ E ∧ v16 = .int .i64 k ∧ Hid (Aft Wx wr)) (fun v16 _ => E - (intOf v16).toNat)
      case atStart => exact ⟨0, Nat.zero_le _, rfl, HB⟩
      case round =>
        clear HB
        obtain ⟨k, hk, rfl, HB⟩ := hrel
        by_cases hkl : k < E
        · obtain ⟨yf, yo, rfl, hF, hyl⟩ := (HC.out.cf _ HB.out).at hkl
          have HFA : Hid (∀ W, Aft Wx W → FilAt W yf (yo + k * 4) (fl fs k)) := by
            intro W hW
            obtain ⟨yf', yo', h1, h2, _⟩ := (HC.out.cf _ hW).at hkl
            cases h1; exact h2
          have H29 : Hid (∀ W, Aft Wx W → Calls Try.prog 29 #[ixo a1 σ.nb c1 a2 σ.nb c2, .slice a1 σ.nb c1, .agg #[.string (fl fs k).b, .int .u8 (fl fs k).l, .string (fl fs k).p, .int .i64 (fl fs k).s]] W fun e w' => e = .returned (.bool true) ∧ Hid (Aft Wx w')) := HC.out.c29 k hkl
          clear hF
          generalize fl fs k = f at *
          obtain ⟨fb, flv, fp, fsv⟩ := f
          obtain ⟨f0, f1, f2, f3⟩ := HFA.out _ HB.out
          dsimp only at f0 f1 f2 f3 H29
          obtain ⟨x0, x1, x2, xs⟩ := HC.out.box _ HB.out
          have ik : (k : Int) < E := nat_cast_lt hkl
          go_wp2
          go_region_held3 (fun w' => w'.cell? ⟨xb, 0, none⟩ = some (.slice none 0 0) ∧ w'.cell? ⟨xb, 1, none⟩ = some (.slice a1 σ.nb c1) ∧ w'.cell? ⟨xb, 2, none⟩ = some (.slice a2 σ.nb c2) ∧ w'.cell? ⟨yf, yo + k * 4, none⟩ = some (.string fb) ∧ w'.cell? ⟨yf, yo + k * 4 + 1, none⟩ = some (.int .u8 flv) ∧ w'.cell? ⟨yf, yo + k * 4 + 2, none⟩ = some (.string fp) ∧ w'.cell? ⟨yf, yo + k * 4 + 3, none⟩ = some (.int .i64 fsv)) (simp [*]) ((go_at_call 29; refine (H29.out _ HB.out.drew).mono ?_; rintro e w15 ⟨rfl, HB2⟩; obtain ⟨y0, y1, y2, ys⟩ := HC.out.box _ HB2.out; obtain ⟨g0, g1, g2, g3⟩ := HFA.out _ HB2.out))
          go_wp2
          go_roundw
          case rel => exact ⟨k + 1, hkl, int_succ k, HB2⟩
          case measure => exact meas_dec hkl
        · obtain rfl : k = E := eq_of_le_not hk hkl
          go_wp2
          go_ret
          exact ⟨rfl, HAX.out.trans (HB.out.mono HAX.out.size)⟩
      --Z>
end Go.Proofs.Qxb6600942a
