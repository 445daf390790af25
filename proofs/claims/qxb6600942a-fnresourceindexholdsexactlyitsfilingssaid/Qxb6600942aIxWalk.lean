import Derived.Test.Qxb6600942aIxLaw
import Derived.Deep.RegionHeld3
import Derived.Deep.DeepCutAuto
import Derived.Deep.CutRange
import Derived.Deep.RegionLaw
namespace Go.Proofs.Qxb6600942a
open Go.RowKit
set_option linter.unusedVariables false

theorem Try.info3 : (Try.prog.info? 3).map (fun i => (i.zero, i.size, i.bytes)) = some (some (.int .i64 0), 1, 8) := by kernel_rfl
theorem Try.info70 : (Try.prog.info? 70).map (fun i => (i.zero, i.size, i.bytes)) = some (some (.agg #[.slice none 0 0, .slice none 0 0]), 2, 48) := by kernel_rfl
theorem Try.info73 : (Try.prog.info? 73).map (fun i => (i.zero, i.size, i.bytes)) = some (some (.agg #[.slice none 0 0, .slice none 0 0]), 2, 48) := by kernel_rfl
theorem Try.info35 : (Try.prog.info? 35).map (fun i => (i.zero, i.size, i.bytes)) = some (some (.slice none 0 0), 1, 24) := by kernel_rfl

theorem ints_made (n : Nat) : (madeCells #[.int .i64 0] (n * 1)).toList = ints (fun _ => 0) n := by
  apply List.ext_getElem?
  intro j
  by_cases h : j < n
  · rw [ints_get _ h]; simp [madeCells, h, Nat.mod_one]
  · rw [List.getElem?_eq_none (by simp [madeCells]; omega), List.getElem?_eq_none (by rw [ints_length]; omega)]

theorem small_wrap (k : Nat) (h : k ≤ 65536) : wrap64 (k : Int) = (k : Int) := by unfold wrap64; omega
theorem small_wrap2 (k : Nat) (h : k ≤ 65536) : IntKind.i64.wrap (k : Int) = (k : Int) := by rw [IntKind.wrap_i64]; omega
theorem nat_nonneg (k : Nat) : (0 : Int) ≤ (k : Int) := by omega
theorem eq0_true {L : Nat} (h : L = 0) : ((L : Int) == 0) = true := by rw [beq_iff_eq]; omega
theorem eq0_false {L : Nat} (h : ¬ L = 0) : ((L : Int) == 0) = false := by rw [beq_eq_false_iff_ne]; omega
theorem pred_cast {L k : Nat} (h : L = k + 1) : (L : Int) - 1 = (k : Int) := by omega
theorem cast_lt {L k : Nat} (h : k < L) : (k : Int) < (L : Int) := by omega
theorem size_ne_false {a b : Nat} (h : a = b) : ((a : Int) != (b : Int)) = false := by subst h; simp
theorem size_ne_true {a b : Nat} (h : ¬ a = b) : ((a : Int) != (b : Int)) = true := by rw [bne_iff_ne]; omega
theorem size_eq_true {a b : Nat} (h : a = b) : ((a : Int) == (b : Int)) = true := by subst h; simp
theorem size_eq_false {a b : Nat} (h : ¬ a = b) : ((a : Int) == (b : Int)) = false := by rw [beq_eq_false_iff_ne]; omega
/-- The marks at the start. -/
def own0 (X S : Nat) : Nat → Tag := fun b => if b = X then (0, 0, 0) else if b = S then (1, 0, 0) else (9, 9, 9)
theorem ixm_start {w1 : World} {B X S n : Nat} (hX : w1.heap[X]? = some (.cells #[.slice none 0 0, .slice none 0 0, .slice none 0 0] 39)) (hB : B ≤ X) (hne : X ≠ S) (hs : w1.ownsRow B 3 1 (.slice (some ⟨S, 0, none⟩) n n) n (ints (fun _ => 0) n)) :
    IxM w1 B X S n (own0 X S) (fun _ => 0) St.zero ⟨.slice none 0 0, .slice none 0 0, fun _ => .slice none 0 0, fun _ _ => .slice none 0 0, fun _ _ => .slice none 0 0⟩ := by
  refine ⟨⟨⟨rfl, .inr ⟨X, 1, _, rfl, hB, hX, Nat.le_refl _, by unfold maxLen; omega, rfl, rfl⟩⟩, fun g hg => ?_⟩, ⟨hs, fun g hg => ?_⟩, RowAt.nil _ _ _ _ _ _, RowAt.nil _ _ _ _ _ _, fun i hi => by simp [St.zero] at hi, fun i j hi => by simp [St.zero] at hi, fun i j hi => by simp [St.zero] at hi⟩
  · simp [Value.ownBlock] at hg; subst hg; simp [own0]
  · simp [Value.ownBlock] at hg; subst hg; simp [own0, hne.symm]

/-- What newResourceIndex leaves: the index in memory, at block X on. -/
def IxRes (w : World) (X n : Nat) (fs : List Fil) (P : Nat → St → Prop) (vB vY : Value) : Prop :=
  ∃ (σ : St) (g : Gh) (own : Nat → Tag) (st : Nat → Int), g.vB = vB ∧ g.vY = vY ∧ IxM w X X (X + 1) n own st σ g ∧ (∀ j, j < n → st j = (fl fs j).s) ∧ P n σ

set_option maxRecDepth 100000 in
set_option maxHeartbeats 8000000 in
theorem index_any (F n : Nat) (fs : List Fil) (w : World) (hS : Fils w (some ⟨F, 0, none⟩) n n fs) (hn : n ≤ 65536) (P : Nat → St → Prop) (hP0 : P 0 St.zero) (hfit : ∀ m σ, P m σ → Fits m σ) (hlev : ∀ j, j < n → (fl fs j).l = 1 ∨ (fl fs j).l = 2)
    (hstep : ∀ m m' σ σ', P m σ → m < m' → m' ≤ n → (∀ t, m ≤ t → t < m' → same (fl fs m) (fl fs t)) → (m' < n → ¬ same (fl fs m) (fl fs m')) → σ.filed (fl fs m) (m, m' - m) σ' → P m' σ') :
    Calls Try.prog 41 #[.slice (some ⟨F, 0, none⟩) n n] w fun e w' => ∃ a1 n1 c1 a2 n2 c2, e = .returned (ixv a1 n1 c1 a2 n2 c2) ∧
      IxRes w' (w.heap.size + 1) n fs P (.slice a1 n1 c1) (.slice a2 n2 c2) ∧ Below w.heap.size w w' := by
  obtain ⟨i3, hi3, h30, h31, h32⟩ := info_parts Try.info3
  obtain ⟨i9, hi9, h90, h91, h92⟩ := info_parts Try.info9
  obtain ⟨i70, hi70, h700, h701, h702⟩ := info_parts Try.info70
  obtain ⟨i73, hi73, h730, h731, h732⟩ := info_parts Try.info73
  obtain ⟨i35, hi35, h350, h351, h352⟩ := info_parts Try.info35
  have HS : Hid (Fils w (some ⟨F, 0, none⟩) n n fs) := hS
  have HP0 : Hid (P 0 St.zero) := hP0
  have HFIT : Hid (∀ m σ, P m σ → Fits m σ) := hfit
  have HLEV : Hid (∀ j, j < n → (fl fs j).l = 1 ∨ (fl fs j).l = 2) := hlev
  have HSTEP : Hid (∀ m m' σ σ', P m σ → m < m' → m' ≤ n → (∀ t, m ≤ t → t < m' → same (fl fs m) (fl fs t)) → (m' < n → ¬ same (fl fs m) (fl fs m')) → σ.filed (fl fs m) (m, m' - m) σ' → P m' σ') := hstep
  clear hS hP0 hfit hstep hlev
  go_enter Try.func41, Try.ntmps41
  go_wp2_with (at_make; refine wpList_make_full _ rfl _ _ 35 rfl (w.heap.size + 1) 3 i3 (.int .i64 0) 1 Try.underlying35 hi3 h30 h31 .i64 .i64 _ _ n rfl rfl rfl rfl (by rw [h32]; omega) (by unfold maxLen; omega) (by simp) ?_; intro w1 hown1 hg1)
  obtain ⟨W0, hW0⟩ : ∃ W0, W0 = w.alloc (.cells #[.slice none 0 0, .slice none 0 0, .slice none 0 0] 39) := ⟨_, rfl⟩
  have hW0s : W0.heap.size = w.heap.size + 1 := by rw [hW0]; simp
  rw [show (Value.int .i64 0).cells = #[.int .i64 0] from rfl, ints_made n, World.size_alloc, World.size_alloc] at hown1
  have hX : w1.heap[w.heap.size + 1]? = some (.cells #[.slice none 0 0, .slice none 0 0, .slice none 0 0] 39) := by
    rw [hg1.block _ (by simp) (by simp), ← World.size_alloc w (.cells #[.slice none 0 0, .slice none 0 0, .slice none 0 0] 39)]; exact heap_alloc_new _ _
  have HI0 : Hid (IxM w1 (w.heap.size + 1) (w.heap.size + 1) (w.heap.size + 1 + 1) n _ _ St.zero _) := ixm_start hX (Nat.le_refl _) (by omega) hown1
  have HB0 : Hid (Below (w.heap.size + 1) W0 w1) := by
    rw [hW0]
    exact ((Below.refl _ _).alloc (by simp) _).grown hg1 (by simp) (fun k h => by simp at h)
  have HFA : Hid (∀ W, Below (w.heap.size + 1) W0 W → ∀ j, j < n → FilAt W F (j * 4) (fl fs j)) := by
    intro W hb j hj
    obtain ⟨yb, yo, hyy, FA, hyl⟩ := HS.out.at hj
    cases hyy
    rw [Nat.zero_add] at FA
    exact FA.of_block ((hb.block F (by omega)).trans (by rw [hW0]; exact Below.heap_alloc _ _ _ hyl))
  have hFX : 0 < n → F < w.heap.size := fun h => by
    obtain ⟨yb, yo, hyy, FA, hyl⟩ := HS.out.at (j := 0) h
    cases hyy
    exact hyl
  have HW0 : Hid (W0 = w.alloc (.cells #[.slice none 0 0, .slice none 0 0, .slice none 0 0] 39)) := hW0
  clear hown1 hg1 hX hW0
  obtain ⟨X, hXe⟩ : ∃ X, X = w.heap.size + 1 := ⟨_, rfl⟩
  rw [← hXe] at HI0 HB0 HFA hW0s ⊢
  have hFX' : 0 < n → F < X := fun h => by have := hFX h; omega
  have HXE : Hid (X = w.heap.size + 1) := hXe
  clear hXe hFX
  go_loopg [5, 19] n (fun gk v5 v19 wr => ∃ (k start : Nat) (σ : St) (g : Gh) (own : Nat → Tag) (st : Nat → Int), Hid (gk + k = n) ∧ start ≤ k ∧ k ≤ n ∧ v19 = .int .i64 k ∧ v5 = .int .i64 start ∧ Hid (IxM wr X X (X + 1) n own st σ g) ∧ Hid (∀ j, j < k → st j = (fl fs j).s) ∧ Hid (P start σ) ∧
      Hid (∀ t, start ≤ t → t ≤ k → t < n → same (fl fs start) (fl fs t)) ∧ Hid (k = n → start = n) ∧ Hid (Below X W0 wr))
  case atStart => exact ⟨0, 0, _, _, _, _, (show _ = _ by omega), by omega, by omega, rfl, rfl, HI0, (fun j h => by omega), HP0, (fun t h1 h2 _ => by rw [show t = 0 from by omega]; exact same_refl _), (fun h => h), HB0⟩
  case round =>
    clear HI0 HB0
    obtain ⟨k, start, σ, g, own, st, HGK, hst, hk, rfl, rfl, HI, HST, HP, HSM, HEND, HB⟩ := hrel
    by_cases hlt : k < n
    · obtain ⟨c0, c1, c2, c3⟩ := HFA.out wr HB.out k hlt
      have hfx := hFX' (by omega)
      have i1 : (k : Int) < n := by omega
      have sc := HI.out.sC hlt
      have sf := HI.out.hs.1.frozenAt k
      have HI1 : Hid (IxM (wr.setCell ⟨X + 1, k, none⟩ (.int .i64 (fl fs k).s)) X X (X + 1) n own (upd st k (fl fs k).s) σ g) := HI.out.setSt k _
      have HB1 : Hid (Below X W0 (wr.setCell ⟨X + 1, k, none⟩ (.int .i64 (fl fs k).s))) := HB.out.setCell (by simp) _
      have hne : F ≠ X + 1 := by omega
      generalize hfk : fl fs k = f at c0 c1 c2 c3 HI1 HB1
      obtain ⟨b1, l1, p1, s1⟩ := f
      dsimp only at c0 c1 c2 c3 HI1 HB1
      have HFK : Hid (fl fs k = ⟨b1, l1, p1, s1⟩) := hfk
      clear hfk
      go_upto_region 10 with fail
      go_cut [19, 73] from 19 to 203 (fun v19 c wx => ∃ (q : Bool), v19 = .int .i64 k ∧ c = .bool q ∧ Hid (q = true ↔ (k + 1 < n ∧ same (fl fs k) (fl fs (k + 1)))) ∧ Hid (IxM wx X X (X + 1) n own (upd st k s1) σ g) ∧ Hid (Below X W0 wx))
      case first =>
        as_aux_lemma =>
          by_cases hkn : k + 1 < n
          · obtain ⟨d0, d1, d2, d3⟩ := HFA.out wr HB.out (k + 1) hkn
            have j1 : (k : Int) + 1 < n := by omega
            generalize hf2 : fl fs (k + 1) = f2 at d0 d1 d2 d3
            obtain ⟨b2, l2, p2, s2⟩ := f2
            dsimp only at d0 d1 d2 d3
            have HF2 : Hid (fl fs (k + 1) = ⟨b2, l2, p2, s2⟩) := hf2
            clear hf2
            by_cases hb : b2 = b1
            · have hb' := (eqB_iff _ _).2 hb
              have HBB : Hid (b2 = b1) := hb
              clear hb
              by_cases hl : (l2 == l1) = true
              · by_cases hp : p2 = p1
                · have hp' := (eqB_iff _ _).2 hp
                  have HPP : Hid (p2 = p1) := hp
                  clear hp
                  go_quiet (fail)
                  go_wp2
                  go_meet
                  case rel => exact ⟨true, rfl, rfl, ⟨fun _ => ⟨hkn, by rw [HFK.out, HF2.out]; exact ⟨HBB.out.symm, (eq_of_beq hl).symm, HPP.out.symm⟩⟩, fun _ => rfl⟩, HI1.out.drewN _, below_drewN HB1.out _⟩
                · have hp' := eqB_false hp
                  go_quiet (fail)
                  go_wp2
                  go_meet
                  case rel => exact ⟨false, rfl, rfl, ⟨fun h => (by cases h), fun h => (by have h2 := h.2; rw [HFK.out, HF2.out] at h2; exact absurd h2.2.2.symm hp)⟩, HI1.out.drewN _, below_drewN HB1.out _⟩
              · have hl' : (l2 == l1) = false := by simpa using hl
                go_quiet (fail)
                go_wp2
                go_meet
                case rel => exact ⟨false, rfl, rfl, ⟨fun h => (by cases h), fun h => (by have h2 := h.2; rw [HFK.out, HF2.out] at h2; have h3 : l1 = l2 := h2.2.1; rw [h3] at hl; simp at hl)⟩, HI1.out.drewN _, below_drewN HB1.out _⟩
            · have hb' := eqB_false hb
              go_quiet (fail)
              go_wp2
              go_meet
              case rel => exact ⟨false, rfl, rfl, ⟨fun h => (by cases h), fun h => (by have h2 := h.2; rw [HFK.out, HF2.out] at h2; exact absurd h2.1.symm hb)⟩, HI1.out.drewN _, below_drewN HB1.out _⟩
          · have j1 : decide ((k : Int) + 1 < n) = false := decide_eq_false (by omega)
            go_quiet (fail)
            go_wp2
            go_meet
            case rel => exact ⟨false, rfl, rfl, ⟨fun h => (by cases h), fun h => absurd h.1 hkn⟩, HI1.out.drewN _, below_drewN HB1.out _⟩
      case rest =>
        obtain ⟨q, rfl, rfl, HQ, HI2, HB2⟩ := hcut
        have HST2 : Hid (∀ j, j < k + 1 → upd st k s1 j = (fl fs j).s) := by
          intro j hj
          by_cases e : j = k
          · rw [e, upd_at, HFK.out]
          · rw [upd_ne _ _ e]; exact HST.out j (by omega)
        clear HI HB HI1 HB1 sc sf c0 c1 c2 c3 HST
        cases q
        · obtain ⟨aB, cB, hvB, _, haB⟩ := HI2.out.hb.shape
          have HFT : Hid (Fits start σ) := HFIT.out _ _ HP.out
          obtain ⟨L, HL⟩ : ∃ L, Hid (σ.N.length = L) := ⟨_, rfl⟩
          have HLL : Hid (L ≤ 65536) := Nat.le_trans (Nat.le_of_eq (HL.out.symm.trans HFT.out.len)) (Nat.le_trans HFT.out.nb (Nat.le_trans hst (Nat.le_trans hk hn)))
          have xb := HI2.out.xB
          rw [HL.out] at hvB haB
          rw [hvB] at xb
          have HVB : Hid (g.vB = .slice aB L cB) := hvB
          clear hvB
          go_upto_region 14 with fail
          go_cut [19, 100] from 19 to 203 (fun v19 c wy => ∃ (q : Bool), v19 = .int .i64 k ∧ c = .bool q ∧ Hid (q = true ↔ σ.newB b1) ∧ Hid (IxM wy X X (X + 1) n own (upd st k s1) σ g) ∧ Hid (Below X W0 wy))
          case first =>
            as_aux_lemma =>
              have c0 := (HFA.out _ HB2.out k hlt).1
              rw [HFK.out] at c0
              dsimp only at c0
              by_cases hz : L = 0
              · have hz1 : ((L : Int) == 0) = true := eq0_true hz
                go_quiet (fail)
                go_wp2
                go_meet
                case rel => exact ⟨true, rfl, rfl, ⟨fun _ => .inl (by rw [← HFT.out.len, HL.out]; exact hz), fun _ => rfl⟩, HI2.out.drewN _, below_drewN HB2.out _⟩
              · have hz1 : ((L : Int) == 0) = false := eq0_false hz
                obtain ⟨gB, hgB⟩ := haB (by omega)
                obtain ⟨k0, HK0⟩ : ∃ k0, Hid (L = k0 + 1) := ⟨L - 1, (show _ = _ by omega)⟩
                have hri : (L : Int) - 1 = (k0 : Int) := pred_cast HK0.out
                have hk0n : k0 < L := by rw [HK0.out]; exact Nat.lt_succ_self _
                have hw1 : wrap64 (k0 : Int) = (k0 : Int) := small_wrap _ (Nat.le_trans (Nat.le_of_lt hk0n) HLL.out)
                have hw2 : IntKind.i64.wrap (k0 : Int) = (k0 : Int) := small_wrap2 _ (Nat.le_trans (Nat.le_of_lt hk0n) HLL.out)
                have hn0 : (0 : Int) ≤ (k0 : Int) := nat_nonneg _
                have j0 : (k0 : Int) < L := cast_lt hk0n
                have bc := HI2.out.bC (i := k0) (gb := gB) (cb := cB) (by rw [HVB.out, hgB, HL.out]) (by rw [HL.out]; exact hk0n)
                subst hgB
                have HNB : Hid (nm σ.N (σ.nb - 1) = nm σ.N k0) := by
                  show _ = _
                  rw [← HFT.out.len, HL.out, HK0.out, Nat.add_sub_cancel]
                by_cases hb : nm σ.N k0 = b1
                · have hb' := (eqB_iff _ _).2 hb
                  have HBB : Hid (nm σ.N k0 = b1) := hb
                  clear hb
                  go_quiet (fail)
                  go_wp2
                  go_meet
                  case rel => exact ⟨false, rfl, rfl, ⟨fun h => (by cases h), fun h => (by
                    rcases h with h | h
                    · rw [← HFT.out.len, HL.out] at h; exact absurd h hz
                    · exact absurd (HNB.out.trans HBB.out) h)⟩, HI2.out.drewN _, below_drewN HB2.out _⟩
                · have hb' := eqB_false hb
                  go_quiet (fail)
                  go_wp2
                  go_meet
                  case rel => exact ⟨true, rfl, rfl, ⟨fun _ => .inr (fun e => hb (HNB.out.symm.trans e)), fun _ => rfl⟩, HI2.out.drewN _, below_drewN HB2.out _⟩
          case rest =>
            obtain ⟨q2, rfl, rfl, HQ2, HI3, HB3⟩ := hcut
            clear HI2 HB2 xb
            go_upto_if 100 with fail
            go_cut [19] from 19 to 203 (fun v19 wz => ∃ (σ1 : St) (g1 : Gh) (own1 : Nat → Tag), v19 = .int .i64 k ∧ Hid (σ.step1 b1 σ1) ∧ Hid (IxM wz X X (X + 1) n own1 (upd st k s1) σ1 g1) ∧ Hid (Below X W0 wz))
            case first =>
              as_aux_lemma =>
                cases q2
                · go_wp2
                  go_meet
                  case rel => exact ⟨σ, g, own, rfl, .inr ⟨fun h => (by have := HQ2.out.2 h; cases this), rfl⟩, HI3, HB3⟩
                · have c0 := (HFA.out _ HB3.out k hlt).1
                  rw [HFK.out] at c0
                  dsimp only at c0
                  have xb := HI3.out.xB
                  have hXs := block_lt HI3.out.hx.1 rfl
                  have HLN : Hid (σ.N.length ≤ 65536) := by show _ ≤ _; rw [HL.out]; exact HLL.out
                  go_upto_region 15 with fail
                  go_cut [19] from 19 to 203 (fun v19 wz => ∃ (g1 : Gh) (own1 : Nat → Tag), v19 = .int .i64 k ∧ Hid (IxM wz X X (X + 1) n own1 (upd st k s1) (σ.addName b1) g1) ∧ Hid (Below X W0 wz))
                  case first =>
                    go_region_law (refine step_append_own_at rfl (.tmp 102) (.tmp 107) 36 rfl X 9 i9 (.string ByteArray.empty) 1 16 Try.underlying36 hi9 h90 h91 h92 rfl Nat.one_pos g.vB σ.N.length (texts σ.N) rfl (HI3.out.drewAlloc _).hb.1 _ 1 1 [.string b1] rfl rfl (cell_one_new _ _ _) (one_text _) (small_len HLN.out) (small_bytes HLN.out) (HI3.out.drewAlloc _).sizeX ?_; intro v' w' hown hgr hloc; obtain ⟨gq, cq, rfl⟩ := own_shape hown; obtain ⟨xb2, xf2, HI4, HB4⟩ := HI3.out.drew.armName HB3.out.drew (drew_alloc _ _) hown hgr hloc; clear hown hgr hloc)
                    all_goals go_wp2
                    all_goals (obtain ⟨own4, HI5⟩ := HI4.out; go_meet; exact ⟨_, own4, rfl, HI5, HB4⟩)
                  case rest =>
                    obtain ⟨g1, own1, rfl, HI4, HB4⟩ := hcut
                    clear HI3 HB3 xb c0 hXs
                    have xy := HI4.out.xY
                    have hXs := block_lt HI4.out.hx.1 rfl
                    have HNB : Hid ((σ.addName b1).nb ≤ 65536) := Nat.le_trans HFT.out.nb (Nat.le_trans hst (Nat.le_trans hk hn))
                    go_wp2_with (at_builtin; go_loud (refine wpList_append_own_at _ rfl (.tmp 111) (.tmp 113) 37 rfl X 70 i70 (.agg #[.slice none 0 0, .slice none 0 0]) 2 48 Try.underlying37 hi70 h700 h701 h702 rfl Nat.two_pos g1.vY (σ.addName b1).nb _ rfl (HI4.out.alloc _).hy.1 _ 1 1 [.slice none 0 0, .slice none 0 0] rfl rfl (cell_pair_new _ _ _ _) two_nils (small_len HNB.out) (small_bytes48 HNB.out) (HI4.out.alloc _).sizeX ?_; intro v' w' hown hgr _ hloc; obtain ⟨gq, cq, rfl⟩ := own_shape hown; obtain ⟨xy2, xf2, HI5, HB5⟩ := HI4.out.armBk HB4.out (World.grownBy_alloc _ _ none) hown hgr hloc; clear hown hgr hloc))
                    obtain ⟨own5, g5, HI6⟩ := HI5.out
                    go_meet
                    case rel => exact ⟨_, g5, own5, rfl, .inl ⟨(by have := HQ2.out; simpa using this), rfl⟩, HI6, HB5⟩
            case rest =>
              obtain ⟨σ1, g1, own1, rfl, HS1, HI4, HB4⟩ := hcut
              clear HI3 HB3 HQ2 HVB haB HL HLL
              obtain ⟨hF1, hnb0⟩ := step1_fits HFT.out HS1.out
              have HF1 : Hid (Fits (start + 1) σ1) := hF1
              have HM : Hid (start + 1 ≤ 65536) := Nat.le_trans (Nat.succ_le_succ hst) (Nat.le_trans hlt hn)
              clear hF1 HFT
              obtain ⟨aY, cY, hvY, _, haY⟩ := HI4.out.hy.shape
              obtain ⟨gy, hgy⟩ := haY hnb0
              subst hgy
              obtain ⟨i0, HI0⟩ : ∃ i0, Hid (σ1.nb = i0 + 1) := ⟨σ1.nb - 1, (show _ = _ by omega)⟩
              obtain ⟨NB, HNB⟩ : ∃ NB, Hid (σ1.nb = NB) := ⟨_, rfl⟩
              have HVY : Hid (g1.vY = .slice (some ⟨gy, 0, none⟩) σ1.nb cY) := hvY
              have xy := HI4.out.xY
              rw [hvY, HNB.out] at xy
              have hi0 : i0 < NB := by rw [← HNB.out, HI0.out]; exact Nat.lt_succ_self _
              have HLTI : Hid (i0 < σ1.nb) := by show _ < _; rw [HNB.out]; exact hi0
              have HNBS : Hid (NB ≤ 65536) := by show _ ≤ _; rw [← HNB.out]; exact Nat.le_trans HF1.out.nb HM.out
              have hri : (NB : Int) - 1 = (i0 : Int) := pred_cast (HNB.out.symm.trans HI0.out)
              have hw1 : wrap64 (i0 : Int) = (i0 : Int) := small_wrap _ (Nat.le_trans (Nat.le_of_lt hi0) HNBS.out)
              have hw2 : IntKind.i64.wrap (i0 : Int) = (i0 : Int) := small_wrap2 _ (Nat.le_trans (Nat.le_of_lt hi0) HNBS.out)
              have hn0 : (0 : Int) ≤ (i0 : Int) := nat_nonneg _
              have j0 : (i0 : Int) < NB := cast_lt hi0
              have HFA1 := HFA.out _ HB4.out k hlt
              rw [HFK.out] at HFA1
              obtain ⟨c0, c1, c2, c3⟩ := HFA1
              dsimp only at c1 c2
              clear hvY haY c0 c3
              have HSAME : Hid (same (fl fs start) ⟨b1, l1, p1, s1⟩) := by have h := HSM.out k hst (Nat.le_refl _) hlt; rw [HFK.out] at h; exact h
              have HST3 : Hid (∀ σ', σ.filed (fl fs start) (start, k + 1 - start) σ' → P (k + 1) σ') := by
                intro σ' hf
                refine HSTEP.out start (k + 1) σ σ' HP.out (Nat.lt_succ_of_le hst) hlt (fun t h1 h2 => HSM.out t h1 (Nat.le_of_lt_succ h2) (Nat.lt_of_lt_of_le h2 hlt)) (fun h hs => ?_) hf
                have h2 := HQ.out.2 ⟨h, same_trans (same_symm (HSM.out k hst (Nat.le_refl _) hlt)) hs⟩
                simp at h2
              have HIP : Hid (σ1.nb - 1 = i0) := by show _ = _; rw [HI0.out, Nat.add_sub_cancel]
              clear HQ HSM HP
              by_cases hl1 : l1 = 1
              · skip
                as_aux_lemma =>
                  have q1 : (l1 == 1) = true := by simpa using hl1
                  have yi := HI4.out.yI HVY.out HLTI.out
                  have yf := (show wc.frozen? ⟨gy, i0 * 2, none⟩ = false from by have h2 := HI4.out.hy.1; rw [HVY.out] at h2; exact h2.frozenAt _)
                  have HI5 : Hid (IxM (wc.setCell ⟨gy, i0 * 2, none⟩ (rv (X + 1) (start, k + 1 - start))) X X (X + 1) n own1 (upd st k s1) (σ1.setIt i0 (start, k + 1 - start)) g1) := HI4.out.setIt HVY.out (start, k + 1 - start)
                  have HB5 : Hid (Below X W0 (wc.setCell ⟨gy, i0 * 2, none⟩ (rv (X + 1) (start, k + 1 - start)))) := HB4.out.setCell (own_ge (by have h2 := HI4.out.hy.1; rw [HVY.out] at h2; exact h2)) _
                  have HP5 : Hid (P (k + 1) (σ1.setIt i0 (start, k + 1 - start))) := by
                    have hf := filed_one (r := (start, k + 1 - start)) HSAME.out HS1.out hl1
                    rw [HIP.out] at hf
                    exact HST3.out _ hf
                  clear HI4 HB4
                  go_upto_region 19 with fail
                  clear c1 c2
                  go_wp2
                  go_roundg (gk - 1)
                  case measure => have := HGK.out; omega
                  case rel => exact ⟨k + 1, k + 1, _, g1, own1, _, (show _ = _ by have := HGK.out; omega), Nat.le_refl _, hlt, by go_num, by go_num, HI5, HST2, HP5, (fun t h1 h2 h3 => by rw [show t = k + 1 from by omega]; exact same_refl _), (fun h => h), HB5⟩
              · skip
                have q1 : (l1 == 1) = false := by simpa using hl1
                have yo := HI4.out.yO HVY.out HLTI.out
                obtain ⟨aO, cO, hvO, _, haO⟩ := (HI4.out.ho i0 HLTI.out).shape
                obtain ⟨NO, HNO⟩ : ∃ NO, Hid (σ1.no i0 = NO) := ⟨_, rfl⟩
                have HVO : Hid (g1.vo i0 = .slice aO (σ1.no i0) cO) := hvO
                rw [hvO, HNO.out] at yo
                have HNOS : Hid (NO ≤ 65536) := by show _ ≤ _; rw [← HNO.out]; exact Nat.le_trans (HF1.out.no i0 HLTI.out) HM.out
                clear hvO
                go_upto_region 21 with fail
                clear c1
                go_cut [19, 158] from 19 to 203 (fun v19 c wy => ∃ (q : Bool), v19 = .int .i64 k ∧ c = .bool q ∧ Hid (q = true ↔ σ1.newO p1) ∧ Hid (IxM wy X X (X + 1) n own1 (upd st k s1) σ1 g1) ∧ Hid (Below X W0 wy))
                case first =>
                  as_aux_lemma =>
                    by_cases hz : NO = 0
                    · have hz1 : ((NO : Int) == 0) = true := eq0_true hz
                      go_quiet (fail)
                      go_wp2
                      go_meet
                      case rel => exact ⟨true, rfl, rfl, ⟨fun _ => .inl (by rw [HIP.out, HNO.out]; exact hz), fun _ => rfl⟩, HI4.out.drewN _, below_drewN HB4.out _⟩
                    · have hz1 : ((NO : Int) == 0) = false := eq0_false hz
                      obtain ⟨go, hgo⟩ := haO (by rw [HNO.out]; exact Nat.pos_of_ne_zero hz)
                      subst hgo
                      obtain ⟨m0, HM0⟩ : ∃ m0, Hid (NO = m0 + 1) := ⟨NO - 1, (Nat.succ_pred hz).symm⟩
                      have hm0 : m0 < NO := by rw [HM0.out]; exact Nat.lt_succ_self _
                      have HM0L : Hid (m0 < σ1.no i0) := by show _ < _; rw [HNO.out]; exact hm0
                      have hri2 : (NO : Int) - 1 = (m0 : Int) := pred_cast HM0.out
                      have hw12 : wrap64 (m0 : Int) = (m0 : Int) := small_wrap _ (Nat.le_trans (Nat.le_of_lt hm0) HNOS.out)
                      have hw22 : IntKind.i64.wrap (m0 : Int) = (m0 : Int) := small_wrap2 _ (Nat.le_trans (Nat.le_of_lt hm0) HNOS.out)
                      have hn02 : (0 : Int) ≤ (m0 : Int) := nat_nonneg _
                      have j02 : (m0 : Int) < NO := cast_lt hm0
                      have op := HI4.out.oP HLTI.out HVO.out HM0L.out
                      obtain ⟨aP, cP, hvP, _, haP⟩ := (HI4.out.hp i0 m0 HLTI.out HM0L.out).shape
                      obtain ⟨hFp, _⟩ := HF1.out.ps i0 m0 HLTI.out HM0L.out
                      obtain ⟨gp, hgp⟩ := haP hFp
                      subst hgp
                      have pc := HI4.out.pC (q := 0) HLTI.out HM0L.out hvP hFp
                      obtain ⟨LP, HLP⟩ : ∃ LP, Hid ((σ1.ps i0 m0).length = LP) := ⟨_, rfl⟩
                      obtain ⟨tx, HTX⟩ : ∃ tx, Hid (nm (σ1.ps i0 m0) 0 = tx) := ⟨_, rfl⟩
                      rw [hvP, HLP.out] at op
                      rw [HTX.out] at pc
                      rw [HLP.out] at hFp
                      have hFp2 : (0 : Int) < (LP : Int) := cast_lt hFp
                      have HNW : Hid (nm (σ1.ps (σ1.nb - 1) (σ1.no (σ1.nb - 1) - 1)) 0 = tx) := by show _ = _; rw [HIP.out, HNO.out, HM0.out, Nat.add_sub_cancel]; exact HTX.out
                      clear hvP haP haO
                      by_cases hs : tx.size = p1.size
                      · have hs1 := size_ne_false hs
                        have hs2 := size_eq_true hs
                        have HSZ : Hid (tx.size = p1.size) := hs
                        clear hs
                        go_quiet (fail)
                        go_wp2
                        go_meet
                        case rel => exact ⟨false, rfl, rfl, ⟨fun h => (by cases h), fun h => (by
                          rcases h with h | h
                          · rw [HIP.out, HNO.out] at h; exact absurd h hz
                          · rw [HNW.out] at h; exact absurd HSZ.out h)⟩, HI4.out.drewN _, below_drewN HB4.out _⟩
                      · have hs1 := size_ne_true hs
                        have hs2 := size_eq_false hs
                        go_quiet (fail)
                        go_wp2
                        go_meet
                        case rel => exact ⟨true, rfl, rfl, ⟨fun _ => .inr (by rw [HNW.out]; exact hs), fun _ => rfl⟩, HI4.out.drewN _, below_drewN HB4.out _⟩
                case rest =>
                  obtain ⟨q3, rfl, rfl, HQ3, HI5, HB5⟩ := hcut
                  clear HI4 HB4 yo xy c2
                  go_upto_if 158 with fail
                  go_cut [19] from 19 to 203 (fun v19 wz => ∃ (σ2 : St) (g2 : Gh) (own2 : Nat → Tag), v19 = .int .i64 k ∧ Hid (σ1.step2 p1 σ2) ∧ Hid (g2.vY = .slice (some ⟨gy, 0, none⟩) σ2.nb cY) ∧ Hid (IxM wz X X (X + 1) n own2 (upd st k s1) σ2 g2) ∧ Hid (Below X W0 wz))
                  case first =>
                    as_aux_lemma =>
                      cases q3
                      · go_wp2
                        go_meet
                        case rel => exact ⟨σ1, g1, own1, rfl, .inr ⟨fun h => (by have := HQ3.out.2 h; cases this), rfl⟩, HVY, HI5, HB5⟩
                      · have yo := HI5.out.yO HVY.out HLTI.out
                        have HNS : Hid (σ1.no i0 ≤ 65536) := by show _ ≤ _; rw [HNO.out]; exact HNOS.out
                        have HROW : Hid (wc.ownsRow X 70 2 (.slice (some ⟨gy, 0, none⟩) σ1.nb cY) σ1.nb (cells2 σ1.nb (fun i => itv (X + 1) (σ1.it i)) g1.vo)) := by
                          have h2 := HI5.out.hy.1
                          rw [HVY.out] at h2
                          exact h2
                        have hgs : gy < wc.heap.size := block_lt HROW.out rfl
                        go_wp2_with (at_builtin; go_loud (refine wpList_append_own_at _ rfl (.tmp 163) (.tmp 165) 68 rfl X 73 i73 (.agg #[.slice none 0 0, .slice none 0 0]) 2 48 Try.underlying68 hi73 h730 h731 h732 rfl Nat.two_pos (g1.vo i0) (σ1.no i0) _ rfl ((HI5.out.alloc _).ho i0 HLTI.out).1 _ 1 1 [.slice none 0 0, .slice none 0 0] rfl rfl (cell_pair_new _ _ _ _) two_nils (small_len HNS.out) (small_bytes48 HNS.out) (HI5.out.alloc _).sizeX ?_; intro v' w' hown hgr _ hloc; obtain ⟨gq, cq, rfl⟩ := own_shape hown; obtain ⟨yo2, yf2, HI6, HB6⟩ := HI5.out.armOb HB5.out HLTI.out HVY.out (World.grownBy_alloc _ _ none) hown hgr hloc; clear hown hgr hloc))
                        obtain ⟨own6, g6, hg6, HI7⟩ := HI6.out
                        go_meet
                        case rel => exact ⟨σ1.addOb i0, g6, own6, rfl, .inl ⟨(by have := HQ3.out; simpa using this), (by rw [HIP.out])⟩, (hg6.trans HVY.out), HI7, HB6⟩
                  case rest =>
                    obtain ⟨σ2, g2, own2, rfl, HS2, HVY2, HI6, HB6⟩ := hcut
                    clear HI5 HB5 HVY HVO haO HNO HNOS HQ3
                    obtain ⟨e1, e2, e3, e4, e5⟩ := step2_fits HF1.out hnb0 HS2.out
                    rw [HIP.out] at e2 e3 e4 e5
                    have HLT2 : Hid (i0 < σ2.nb) := by show _ < _; rw [e1]; exact HLTI.out
                    have HIP2 : Hid (σ2.nb - 1 = i0) := by show _ = _; rw [e1]; exact HIP.out
                    obtain ⟨aO2, cO2, hvO2, _, haO2⟩ := (HI6.out.ho i0 HLT2.out).shape
                    obtain ⟨go, hgo⟩ := haO2 e2
                    subst hgo
                    obtain ⟨NO2, HNO2⟩ : ∃ NO2, Hid (σ2.no i0 = NO2) := ⟨_, rfl⟩
                    obtain ⟨j1, HJ1⟩ : ∃ j1, Hid (NO2 = j1 + 1) := ⟨NO2 - 1, (Nat.succ_pred (by rw [← HNO2.out]; exact Nat.ne_of_gt e2)).symm⟩
                    have HVO2 : Hid (g2.vo i0 = .slice (some ⟨go, 0, none⟩) (σ2.no i0) cO2) := hvO2
                    have yo := HI6.out.yO HVY2.out HLT2.out
                    rw [hvO2, HNO2.out] at yo
                    have hj1 : j1 < NO2 := by rw [HJ1.out]; exact Nat.lt_succ_self _
                    have HJL : Hid (j1 < σ2.no i0) := by show _ < _; rw [HNO2.out]; exact hj1
                    have HJM : Hid (j1 ≤ 65536) := by
                      rw [HNO2.out, HJ1.out] at e3
                      exact Nat.le_trans (Nat.le_of_succ_le_succ e3) HM.out
                    have HJP : Hid (σ2.no i0 - 1 = j1) := by show _ = _; rw [HNO2.out, HJ1.out, Nat.add_sub_cancel]
                    rw [HJP.out] at e4 e5
                    have HPL : Hid ((σ2.ps i0 j1).length ≤ 65536) := Nat.le_trans e4 HM.out
                    have HRL : Hid ((σ2.rs i0 j1).length ≤ 65536) := Nat.le_trans e5 HM.out
                    have hri2 : (NO2 : Int) - 1 = (j1 : Int) := pred_cast HJ1.out
                    have hw12 : wrap64 (j1 : Int) = (j1 : Int) := small_wrap _ HJM.out
                    have hw22 : IntKind.i64.wrap (j1 : Int) = (j1 : Int) := small_wrap2 _ HJM.out
                    have hn02 : (0 : Int) ≤ (j1 : Int) := nat_nonneg _
                    have j02 : (j1 : Int) < NO2 := cast_lt hj1
                    clear hvO2 haO2 e1 e2 e3 e4 e5
                    go_upto_region 23 with fail
                    go_quiet (fail)
                    go_upto_region 24 with fail
                    have HI7 : Hid (IxM (wc.drewN nq) X X (X + 1) n own2 (upd st k s1) σ2 g2) := HI6.out.drewN nq
                    have HB7 : Hid (Below X W0 (wc.drewN nq)) := below_drewN HB6.out nq
                    clear yo HI6 HB6
                    generalize wc.drewN nq = w3 at HI7 HB7 ⊢
                    have HFA2 := HFA.out _ HB7.out k hlt
                    rw [HFK.out] at HFA2
                    obtain ⟨c0, c1, c2, c3⟩ := HFA2
                    dsimp only at c2
                    clear c0 c1 c3
                    have op := HI7.out.oP HLT2.out HVO2.out HJL.out
                    have HROW2 : Hid (w3.ownsRow X 73 2 (.slice (some ⟨go, 0, none⟩) (σ2.no i0) cO2) (σ2.no i0) (cells2 (σ2.no i0) (g2.vp i0) (g2.vl i0))) := by
                      have h2 := (HI7.out.ho i0 HLT2.out).1
                      rw [HVO2.out] at h2
                      exact h2
                    have hgs2 : go < w3.heap.size := block_lt HROW2.out rfl
                    have HP9 : Hid (P (k + 1) ((σ2.addP i0 j1 p1).addL i0 j1 (start, k + 1 - start))) := by
                      have hf := filed_two (r := (start, k + 1 - start)) HSAME.out HS1.out hl1 HS2.out
                      rw [HIP2.out, HJP.out] at hf
                      exact HST3.out _ hf
                    go_cut [19] from 19 to 203 (fun v19 wz => ∃ (g3 : Gh) (own3 : Nat → Tag), v19 = .int .i64 k ∧ Hid (g3.vo = g2.vo) ∧ Hid (IxM wz X X (X + 1) n own3 (upd st k s1) (σ2.addP i0 j1 p1) g3) ∧ Hid (Below X W0 wz))
                    case first =>
                      go_region_law (refine step_append_own_at rfl (.tmp 184) (.tmp 189) 36 rfl X 9 i9 (.string ByteArray.empty) 1 16 Try.underlying36 hi9 h90 h91 h92 rfl Nat.one_pos (g2.vp i0 j1) (σ2.ps i0 j1).length (texts (σ2.ps i0 j1)) rfl ((HI7.out.drewAlloc _).hp i0 j1 HLT2.out HJL.out).1 _ 1 1 [.string p1] rfl rfl (cell_one_new _ _ _) (one_text _) (small_len HPL.out) (small_bytes HPL.out) (HI7.out.drewAlloc _).sizeX ?_; intro v' w' hown hgr hloc; obtain ⟨gq, cq, rfl⟩ := own_shape hown; obtain ⟨op2, of2, HI8, HB8⟩ := HI7.out.drew.armP HB7.out.drew HLT2.out HJL.out HVO2.out (drew_alloc _ _) hown hgr hloc; clear hown hgr hloc)
                      all_goals go_wp2
                      all_goals (obtain ⟨own8, g8, hg8, HI9⟩ := HI8.out; go_meet; exact ⟨g8, own8, rfl, hg8, HI9, HB8⟩)
                    case rest =>
                      as_aux_lemma =>
                        obtain ⟨g3, own3, rfl, HG3, HI8, HB8⟩ := hcut
                        clear HI7 HB7 op c2 hgs2 HROW2
                        have HVO3 : Hid (g3.vo i0 = .slice (some ⟨go, 0, none⟩) (σ2.no i0) cO2) := by show _ = _; rw [HG3.out]; exact HVO2.out
                        have ol := HI8.out.oL HLT2.out HVO3.out HJL.out
                        have HROW3 : Hid (wc.ownsRow X 73 2 (.slice (some ⟨go, 0, none⟩) (σ2.no i0) cO2) (σ2.no i0) (cells2 (σ2.no i0) (g3.vp i0) (g3.vl i0))) := by
                          have h2 := (HI8.out.ho i0 HLT2.out).1
                          rw [HVO3.out] at h2
                          exact h2
                        have hgs3 : go < wc.heap.size := block_lt HROW3.out rfl
                        go_wp2_with (at_builtin; go_loud (refine wpList_append_own_at _ rfl (.tmp 197) (.tmp 199) 71 rfl X 35 i35 (.slice none 0 0) 1 24 Try.underlying71 hi35 h350 h351 h352 rfl Nat.one_pos (g3.vl i0 j1) (σ2.rs i0 j1).length ((σ2.rs i0 j1).map (rv (X + 1))) rfl ((HI8.out.alloc _).hl i0 j1 HLT2.out HJL.out).1 _ 1 1 [rv (X + 1) (start, k + 1 - start)] rfl rfl (cell_one_new _ _ _) (one_range _ _) (small_len HRL.out) (small_bytes24 HRL.out) (HI8.out.alloc _).sizeX ?_; intro v' w' hown hgr _ hloc; obtain ⟨gq, cq, rfl⟩ := own_shape hown; obtain ⟨ol2, of2, HI9, HB9⟩ := HI8.out.armL HB8.out HLT2.out HJL.out HVO3.out (World.grownBy_alloc _ _ none) hown hgr hloc; clear hown hgr hloc))
                        obtain ⟨own9, g9, HI10⟩ := HI9.out
                        go_roundg (gk - 1)
                        case measure => have := HGK.out; omega
                        case rel => exact ⟨k + 1, k + 1, _, g9, own9, _, (show _ = _ by have := HGK.out; omega), Nat.le_refl _, hlt, by go_num, by go_num, HI10, HST2, HP9, (fun t h1 h2 h3 => by rw [show t = k + 1 from by omega]; exact same_refl _), (fun h => h), HB9⟩
        · have HQ' := HQ.out.1 rfl
          have HSM' : Hid (∀ t, start ≤ t → t ≤ k + 1 → t < n → same (fl fs start) (fl fs t)) := by
            intro t h1 h2 h3
            by_cases e : t = k + 1
            · rw [e]; exact same_trans (HSM.out k hst (Nat.le_refl _) hlt) HQ'.2
            · exact HSM.out t h1 (by omega) h3
          have hk1 : k + 1 < n := HQ'.1
          clear HQ'
          go_wp2
          go_roundg (gk - 1)
          case measure => have := HGK.out; omega
          case rel => exact ⟨k + 1, start, σ, g, own, _, (show _ = _ by have := HGK.out; omega), by omega, by omega, by go_num, rfl, HI2, HST2, HP, HSM', (fun h => by omega), HB2⟩
    · skip
      as_aux_lemma =>
        obtain rfl : k = n := by omega
        have HSN : Hid (start = k) := HEND.out rfl
        rw [HSN.out] at HP
        obtain ⟨a1, c1, hvB, _, _⟩ := HI.out.hb.shape
        obtain ⟨a2, c2, hvY, _, _⟩ := HI.out.hy.shape
        have x0 := HI.out.x0
        have xb := HI.out.xB
        have xy := HI.out.xY
        rw [hvB] at xb
        rw [hvY] at xy
        have HVB : Hid (g.vB = .slice a1 σ.N.length c1) := hvB
        have HVY : Hid (g.vY = .slice a2 σ.nb c2) := hvY
        have hblk : wr.heap[w.heap.size]? = some (.cells #[.slice none 0 0, .slice none 0 0, .slice none 0 0] 39) := by
          rw [HB.out.block _ (by have := HXE.out; omega), HW0.out]; exact heap_alloc_new _ _
        have g0 : wr.cell? ⟨w.heap.size, 0, none⟩ = some (.slice none 0 0) := by simp [World.cell?, hblk]
        have g1 : wr.cell? ⟨w.heap.size, 1, none⟩ = some (.slice none 0 0) := by simp [World.cell?, hblk]
        have g2 : wr.cell? ⟨w.heap.size, 2, none⟩ = some (.slice none 0 0) := by simp [World.cell?, hblk]
        have f0 : ∀ j, wr.frozen? ⟨w.heap.size, j, none⟩ = false := fun j => by simp [World.frozen?, hblk]
        have HBB : Hid (Below w.heap.size w wr) := by
          have h1 := HB.out
          rw [HW0.out] at h1
          exact ((Below.refl _ _).alloc (Nat.le_refl _) _).trans (h1.mono (by have := HXE.out; omega))
        clear hblk hvB hvY HB
        generalize σ.N.length = n1 at *
        go_wp2
        refine bodyPost_ret (v := .agg #[.slice none 0 0, .slice a1 n1 c1, .slice a2 σ.nb c2]) ?_ rfl ⟨a1, n1, c1, a2, σ.nb, c2, rfl, ⟨σ, g, own, st, HVB.out, HVY.out, ?_, HST.out, HP.out⟩, ?_⟩
        · simp [results, Try.results41, go_sem, g0, g1, g2]
        · have hi := HI.out
          rw [HXE.out] at hi
          refine hi.other fun j hj1 hj2 => ?_
          rw [Below.heap_setCell _ _ _ _ (by simp; omega), Below.heap_setCell _ _ _ _ (by simp; omega), Below.heap_setCell _ _ _ _ (by simp; omega)]
        · exact ((HBB.out.setCell (Nat.le_refl _) _).setCell (Nat.le_refl _) _).setCell (Nat.le_refl _) _
end Go.Proofs.Qxb6600942a
