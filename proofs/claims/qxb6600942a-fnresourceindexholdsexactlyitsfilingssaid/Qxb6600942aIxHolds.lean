/-
  INDEXHOLDS: every filing is found.
-/
import Derived.Test.Qxb6600942aIxFind
namespace Go.Proofs.Qxb6600942a
open Go.RowKit
set_option linter.unusedVariables false

/-- The two boxes of indexHolds. -/
structure HBox (w W : World) (x y z : Value) (f : Fil) : Prop where
  s0 : w.heap.size < W.heap.size
  s1 : w.heap.size + 1 < W.heap.size
  c0 : W.cell? ⟨w.heap.size, 0, none⟩ = some x
  c1 : W.cell? ⟨w.heap.size, 1, none⟩ = some y
  c2 : W.cell? ⟨w.heap.size, 2, none⟩ = some z
  d0 : W.cell? ⟨w.heap.size + 1, 0, none⟩ = some (.string f.b)
  d1 : W.cell? ⟨w.heap.size + 1, 1, none⟩ = some (.int .u8 f.l)
  d2 : W.cell? ⟨w.heap.size + 1, 2, none⟩ = some (.string f.p)
  d3 : W.cell? ⟨w.heap.size + 1, 3, none⟩ = some (.int .i64 f.s)
  bel : Below w.heap.size w W
theorem HBox.next {w W W' : World} {x y z : Value} {f : Fil} (h : HBox w W x y z f) (hb : Below W.heap.size W W') : HBox w W' x y z f := by
  obtain ⟨s0, s1, c0, c1, c2, d0, d1, d2, d3, bel⟩ := h
  have k0 := hb.size
  exact ⟨by omega, by omega, (hb.cell (p := ⟨w.heap.size, 0, none⟩) s0).trans c0, (hb.cell (p := ⟨w.heap.size, 1, none⟩) s0).trans c1, (hb.cell (p := ⟨w.heap.size, 2, none⟩) s0).trans c2,
    (hb.cell (p := ⟨w.heap.size + 1, 0, none⟩) s1).trans d0, (hb.cell (p := ⟨w.heap.size + 1, 1, none⟩) s1).trans d1, (hb.cell (p := ⟨w.heap.size + 1, 2, none⟩) s1).trans d2, (hb.cell (p := ⟨w.heap.size + 1, 3, none⟩) s1).trans d3, bel.trans (hb.mono (by omega))⟩
theorem HBox.start (w : World) (x y z : Value) (f : Fil) (s t : TypeId) : HBox w ((w.alloc (.cells #[x, y, z] s)).alloc (.cells #[.string f.b, .int .u8 f.l, .string f.p, .int .i64 f.s] t)) x y z f := by
  refine ⟨by simp; omega, by simp, ?_, ?_, ?_, ?_, ?_, ?_, ?_, ((Below.refl _ _).alloc (Nat.le_refl _) _).alloc (by simp) _⟩
  · rw [World.cell?_alloc_past _ _ _ (by simp), World.cell?_alloc_new]; rfl
  · rw [World.cell?_alloc_past _ _ _ (by simp), World.cell?_alloc_new]; rfl
  · rw [World.cell?_alloc_past _ _ _ (by simp), World.cell?_alloc_new]; rfl
  all_goals
    rw [show w.heap.size + 1 = (w.alloc (.cells #[x, y, z] s)).heap.size from by simp, World.cell?_alloc_new]; rfl
theorem rowStrs {w : World} {B c n : Nat} {a : Option Addr} {N : List ByteArray} (h : w.ownsRow B 9 1 (.slice a n c) N.length (texts N)) : Strs w a N.length c N ∧ n = N.length := by
  rcases h.2 with ⟨h0, h1⟩ | ⟨g, cap, cur, h0, _⟩
  · cases h0
    exact ⟨⟨rfl, fun _ => ⟨h1, rfl⟩, fun x hx => by cases hx⟩, h1.symm⟩
  · cases h0
    exact ⟨strs_of_texts rfl h, rfl⟩
theorem range_ints {w : World} {B X S n : Nat} {own : Nat → Tag} {st : Nat → Int} {σ : St} {g : Gh} (h : IxM w B X S n own st σ g) {r1 r2 : Nat} (hr : r1 + r2 ≤ n) : IntsAt w (some ⟨S, r1, none⟩) r2 (fun j => st (r1 + j)) :=
  fun _ => ⟨S, r1, rfl, fun j hj => h.sC (by omega)⟩
theorem below_alloc (w : World) (o : Obj) : Below w.heap.size w (w.alloc o) := (Below.refl _ _).alloc (Nat.le_refl _) _

set_option maxRecDepth 100000 in
set_option maxHeartbeats 2000000 in
theorem holds_any {w : World} {B X S n : Nat} {own : Nat → Tag} {st : Nat → Int} {σ : St} {g : Gh} {a1 a2 : Option Addr} {n1 c1 n2 c2 : Nat} {fs : List Fil} (h : IxM w B X S n own st σ g) (hB : g.vB = .slice a1 n1 c1) (hY : g.vY = .slice a2 n2 c2)
    (hP : IxP fs n σ) (hst : ∀ j, j < n → st j = (fl fs j).s) (hn : n ≤ 65536) (hz : flen fs ≤ 1048576) (k : Nat) (hk : k < n) (f : Fil) (hf : fl fs k = f) :
    Calls Try.prog 29 #[ixv a1 n1 c1 a2 n2 c2, .slice a1 n1 c1, .agg #[.string f.b, .int .u8 f.l, .string f.p, .int .i64 f.s]] w fun e w' => e = .returned (.bool true) ∧ Below w.heap.size w w' := by
  obtain ⟨b, hb, hbn, hH⟩ := hP.has k hk
  have HX : Hid (∀ W, Below w.heap.size w W → IxM W B X S n own st σ g) := fun W hW => h.below hW
  have hsk : st k = f.s := by rw [hst k hk, hf]
  have HT : Hid (∀ W, Below w.heap.size w W → Calls Try.prog 38 #[.slice a1 n1 c1, .string f.b] W fun e w' => e = .returned (.int .i64 b) ∧ ∃ m, w' = W.drewN m) := by
    intro W hW
    have h1 := (HX.out W hW).hb.1
    rw [hB] at h1
    obtain ⟨h2, rfl⟩ := rowStrs h1
    have hl := hP.len
    have hnb := hP.nb
    refine searchText_any _ _ _ _ _ h2 (by omega) (fun i hi => ?_) (fun i hi => hP.rise i (by omega)) _ b (by omega) (by rw [hbn, hf])
    have := hP.small i (by omega); omega
  by_cases hl : f.l = 1
  · obtain ⟨r, hr, hr1, hr2⟩ := hH.one (by rw [hf]; exact hl)
    obtain ⟨r1, r2⟩ := r
    obtain ⟨o1, o2, o3⟩ := (hP.bk b hb).it _ hr
    dsimp only at o1 o2 o3 hr1 hr2
    have HC1 : Hid (∀ W, Below w.heap.size w W → Calls Try.prog 23 #[ixv a1 n1 c1 a2 n2 c2, .int .i64 b] W fun e w' => e = .returned (.slice (some ⟨S, r1, none⟩) r2 r2) ∧ ∃ o, w' = W.alloc o) := by
      intro W hW
      have := itself_any (a1 := a1) (n1 := n1) (c1 := c1) (HX.out W hW) hY hb
      have e1 : σ.it b = some (r1, r2) := hr
      rw [e1] at this; exact this
    have HC2 : Hid (∀ W, Below w.heap.size w W → Calls Try.prog 39 #[.slice (some ⟨S, r1, none⟩) r2 r2, .int .i64 f.s] W fun e w' => e = .returned (.int .i64 (k - r1 : Nat)) ∧ w' = W) := by
      intro W hW
      refine searchInt_any _ _ _ _ _ (range_ints (HX.out W hW) o2) (by omega) (fun i hi => ?_) _ (k - r1) (by omega) ?_
      · have := o3 (r1 + i) (by omega) (by omega)
        rw [hst _ (by omega), hst _ (by omega)]; exact this
      · rw [show r1 + (k - r1) = k from by omega, hsk]
    clear hst hP h HX hf hH
    generalize k - r1 = q at *
    obtain ⟨fb, flv, fp, fsv⟩ := f
    dsimp only at *
    subst hl
    unfold ixv at *
    go_enter Try.func29, Try.ntmps29
    go_wp2_with fail
    refine (HT.out _ (HBox.start w _ _ _ ⟨fb, 1, fp, fsv⟩ _ _).bel).mono ?_
    rintro e w1 ⟨rfl, m, rfl⟩
    obtain ⟨W, hW⟩ : ∃ W, W = (((w.alloc (.cells #[.slice none 0 0, .slice a1 n1 c1, .slice a2 n2 c2] 39)).alloc (.cells #[.string fb, .int .u8 1, .string fp, .int .i64 fsv] 53)).drewN m) := ⟨_, rfl⟩
    have HW : HBox w W (.slice none 0 0) (.slice a1 n1 c1) (.slice a2 n2 c2) ⟨fb, 1, fp, fsv⟩ := by
      rw [hW]; exact (HBox.start w _ _ _ ⟨fb, 1, fp, fsv⟩ _ _).next (below_drewN (Below.refl _ _) _)
    rw [← hW]
    clear hW HT
    obtain ⟨s0, s1, x0, x1, x2, d0, d1, d2, d3, bel⟩ := HW
    dsimp only at d0 d1 d2 d3
    have HBW : Hid (Below w.heap.size w W) := bel
    clear bel
    go_wp2
    go_region_held3 (fun w' => w'.cell? ⟨w.heap.size, 0, none⟩ = some (.slice none 0 0) ∧ w'.cell? ⟨w.heap.size, 1, none⟩ = some (.slice a1 n1 c1) ∧ w'.cell? ⟨w.heap.size, 2, none⟩ = some (.slice a2 n2 c2) ∧ w'.cell? ⟨w.heap.size + 1, 3, none⟩ = some (.int .i64 fsv)) (simp [*, go_sem, World.cell?_alloc_past]) ((first | (go_at_call 23; refine (HC1.out _ HBW.out.drew).mono ?_; rintro e w5 ⟨rfl, o5, rfl⟩) | (go_at_call 39; refine (HC2.out _ (HBW.out.drew.trans ((below_alloc _ _).mono (Nat.le_of_lt s0)))).mono ?_; rintro e w6 ⟨rfl, rfl⟩)))
    go_wp2
    go_ret
    exact ⟨rfl, HBW.out.drew.trans ((below_alloc _ _).mono (Nat.le_of_lt s0))⟩
  · obtain ⟨G, i, hG, hi, hip, hi1, hi2⟩ := hH.two (by rw [hf]; exact hl)
    have hG' : G < σ.no b := hG
    have hBk := hP.bk b hb
    have hGr : GrpOk fs n (σ.ps b G) (σ.rs b G) := hBk.grp G hG
    have hip' : nm (σ.ps b G) i = f.p := by rw [← hf]; exact hip
    have hi' : i < (σ.ps b G).length := hi
    obtain ⟨o1, o2, o3⟩ := hGr.run i hi
    have HC40 : Hid (∀ W, Below w.heap.size w W → Calls Try.prog 40 #[ixv a1 n1 c1 a2 n2 c2, .int .i64 b, .int .i64 f.p.size] W fun e w' => e = .returned (.int .i64 G) ∧ Below W.heap.size W w') := by
      intro W hW
      have hfew : σ.no b ≤ n := hBk.few
      refine searchGroup_any (HX.out W hW) hY hb (by omega) (fun j hj => (hBk.grp j hj).pos) (fun j hj => hBk.rise j hj) G _ hG ?_
      rw [← hip']; exact (hGr.wid i hi').symm
    obtain ⟨ap, cp, hV⟩ := row_shape (h.hp b G hb hG').1
    have HC26 : Hid (∀ W, Below w.heap.size w W → Calls Try.prog 26 #[ixv a1 n1 c1 a2 n2 c2, .int .i64 b, .int .i64 G] W fun e w' => e = .returned (.slice ap (σ.ps b G).length cp) ∧ ∃ o, w' = W.alloc o) := by
      intro W hW
      have := prefixes_any (a1 := a1) (n1 := n1) (c1 := c1) (HX.out W hW) hY hb hG'
      rw [hV] at this; exact this
    have HC38 : Hid (∀ W, Below w.heap.size w W → Calls Try.prog 38 #[.slice ap (σ.ps b G).length cp, .string f.p] W fun e w' => e = .returned (.int .i64 i) ∧ ∃ m, w' = W.drewN m) := by
      intro W hW
      have h1 := ((HX.out W hW).hp b G hb hG').1
      rw [hV] at h1
      obtain ⟨h2, _⟩ := rowStrs h1
      have hfew := hGr.few
      exact searchText_any _ _ _ _ _ h2 (by omega) (fun i hi => Nat.le_trans (hGr.small i hi) hz) (fun i hi => hGr.rise i hi) _ i hi' hip'
    have hri : i < (σ.rs b G).length := by rw [hGr.len]; exact hi'
    have HC28 : Hid (∀ W, Below w.heap.size w W → Calls Try.prog 28 #[ixv a1 n1 c1 a2 n2 c2, .int .i64 b, .int .i64 G, .int .i64 i] W fun e w' => e = .returned (rv S (rg (σ.rs b G) i)) ∧ ∃ o, w' = W.alloc o) := fun W hW =>
      list_any (a1 := a1) (n1 := n1) (c1 := c1) (HX.out W hW) hY hb hG' hri
    have hi1' : (rg (σ.rs b G) i).1 ≤ k := hi1
    have hi2' : k < (rg (σ.rs b G) i).1 + (rg (σ.rs b G) i).2 := hi2
    clear hi1 hi2 hip hi hG hH hBk hGr hri hV
    generalize rg (σ.rs b G) i = r at *
    generalize (σ.ps b G).length = L at *
    obtain ⟨r1, r2⟩ := r
    dsimp only at o1 o2 o3 hi1' hi2'
    have HC39 : Hid (∀ W, Below w.heap.size w W → Calls Try.prog 39 #[.slice (some ⟨S, r1, none⟩) r2 r2, .int .i64 f.s] W fun e w' => e = .returned (.int .i64 (k - r1 : Nat)) ∧ w' = W) := by
      intro W hW
      refine searchInt_any _ _ _ _ _ (range_ints (HX.out W hW) o2) (by omega) (fun i hi => ?_) _ (k - r1) (by omega) ?_
      · have := o3 (r1 + i) (by omega) (by omega)
        rw [hst _ (by omega), hst _ (by omega)]; exact this
      · rw [show r1 + (k - r1) = k from by omega, hsk]
    clear hst hP h HX hf
    generalize k - r1 = q at *
    obtain ⟨fb, flv, fp, fsv⟩ := f
    dsimp only at *
    have q1 : (flv == 1) = false := by rw [beq_eq_false_iff_ne]; exact hl
    unfold rv at *
    unfold ixv at *
    go_enter Try.func29, Try.ntmps29
    go_wp2_with fail
    refine (HT.out _ (HBox.start w _ _ _ ⟨fb, flv, fp, fsv⟩ _ _).bel).mono ?_
    rintro e w1 ⟨rfl, m, rfl⟩
    obtain ⟨W, hW⟩ : ∃ W, W = (((w.alloc (.cells #[.slice none 0 0, .slice a1 n1 c1, .slice a2 n2 c2] 39)).alloc (.cells #[.string fb, .int .u8 flv, .string fp, .int .i64 fsv] 53)).drewN m) := ⟨_, rfl⟩
    have HW : HBox w W (.slice none 0 0) (.slice a1 n1 c1) (.slice a2 n2 c2) ⟨fb, flv, fp, fsv⟩ := by
      rw [hW]; exact (HBox.start w _ _ _ ⟨fb, flv, fp, fsv⟩ _ _).next (below_drewN (Below.refl _ _) _)
    rw [← hW]
    clear hW HT
    have HHW : Hid (HBox w W (.slice none 0 0) (.slice a1 n1 c1) (.slice a2 n2 c2) ⟨fb, flv, fp, fsv⟩) := HW
    obtain ⟨s0, s1, x0, x1, x2, d0, d1, d2, d3, bel⟩ := HW
    dsimp only at d0 d1 d2 d3
    clear bel
    go_wp2_with fail
    refine (HC40.out _ HHW.out.bel).mono ?_
    rintro e w2 ⟨rfl, hb2⟩
    have HH2 : Hid (HBox w w2 (.slice none 0 0) (.slice a1 n1 c1) (.slice a2 n2 c2) ⟨fb, flv, fp, fsv⟩) := HHW.out.next hb2
    clear s0 s1 x0 x1 x2 d0 d1 d2 d3 HHW hb2
    obtain ⟨s0, s1, x0, x1, x2, d0, d1, d2, d3, bel⟩ := HH2.out
    dsimp only at d0 d1 d2 d3
    clear bel
    go_wp2
    go_region_held3 (fun w' => w'.cell? ⟨w.heap.size, 0, none⟩ = some (.slice none 0 0) ∧ w'.cell? ⟨w.heap.size, 1, none⟩ = some (.slice a1 n1 c1) ∧ w'.cell? ⟨w.heap.size, 2, none⟩ = some (.slice a2 n2 c2) ∧ w'.cell? ⟨w.heap.size + 1, 2, none⟩ = some (.string fp)) (simp [*, go_sem, World.cell?_alloc_past]) ((first | (go_at_call 26; refine (HC26.out _ HH2.out.bel.drew).mono ?_; rintro e w5 ⟨rfl, o5, rfl⟩) | (go_at_call 38; refine (HC38.out _ (HH2.out.bel.drew.trans ((below_alloc _ _).mono (Nat.le_of_lt s0)))).mono ?_; rintro e w6 ⟨rfl, m6, rfl⟩)))
    obtain ⟨W3, hW3⟩ : ∃ W3, W3 = (w2.alloc o5).drewN (1 + m6) := ⟨_, rfl⟩
    have HH3 : Hid (HBox w W3 (.slice none 0 0) (.slice a1 n1 c1) (.slice a2 n2 c2) ⟨fb, flv, fp, fsv⟩) := by
      rw [hW3]; exact (HH2.out.next (below_drewN (below_alloc _ _) _))
    rw [← hW3]
    clear s0 s1 x0 x1 x2 d0 d1 d2 d3 hW3 HH2
    obtain ⟨s0, s1, x0, x1, x2, d0, d1, d2, d3, bel⟩ := HH3.out
    dsimp only at d0 d1 d2 d3
    clear bel
    go_wp2
    go_region_held3 (fun w' => w'.cell? ⟨w.heap.size, 0, none⟩ = some (.slice none 0 0) ∧ w'.cell? ⟨w.heap.size, 1, none⟩ = some (.slice a1 n1 c1) ∧ w'.cell? ⟨w.heap.size, 2, none⟩ = some (.slice a2 n2 c2) ∧ w'.cell? ⟨w.heap.size + 1, 3, none⟩ = some (.int .i64 fsv)) (simp [*, go_sem, World.cell?_alloc_past]) ((first | (go_at_call 28; refine (HC28.out _ HH3.out.bel.drew).mono ?_; rintro e w7 ⟨rfl, o7, rfl⟩) | (go_at_call 39; refine (HC39.out _ (HH3.out.bel.drew.trans ((below_alloc _ _).mono (Nat.le_of_lt s0)))).mono ?_; rintro e w8 ⟨rfl, rfl⟩)))
    go_wp2
    go_ret
    exact ⟨rfl, HH3.out.bel.drew.trans ((below_alloc _ _).mono (Nat.le_of_lt s0))⟩
end Go.Proofs.Qxb6600942a
