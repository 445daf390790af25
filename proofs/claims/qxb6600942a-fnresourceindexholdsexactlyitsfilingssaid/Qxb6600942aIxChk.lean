/-
  WHAT THE LAW'S BODY MAY LEAN ON, ONCE THE INDEX IS BUILT: the contracts of all it calls, in any later world.
-/
import Derived.Test.Qxb6600942aIxHolds
namespace Go.Proofs.Qxb6600942a
open Go.RowKit
set_option linter.unusedVariables false

/-- What buildIndex leaves. -/
def IxOut (w : World) (n : Nat) (fs : List Fil) (vB vY : Value) : Prop :=
  ∃ (X : Nat) (σ : St) (g : Gh) (own : Nat → Tag) (st : Nat → Int), g.vB = vB ∧ g.vY = vY ∧ IxM w X X (X + 1) n own st σ g ∧ (∀ j, j < n → st j = (fl fs j).s) ∧ IxP fs n σ
/-- The index as a value, laid open. -/
abbrev ixo (a1 : Option Addr) (n1 c1 : Nat) (a2 : Option Addr) (n2 c2 : Nat) : Value := .agg #[.slice none 0 0, .slice a1 n1 c1, .slice a2 n2 c2]
/-- Worlds behind Wx. -/
abbrev Aft (Wx W : World) : Prop := Below Wx.heap.size Wx W
theorem Aft.next {Wx W W' : World} (h : Aft Wx W) (hb : Below W.heap.size W W') : Aft Wx W' := h.trans (hb.mono h.size)
theorem Aft.drew {Wx W : World} (h : Aft Wx W) : Aft Wx W.drew := Below.drew h
theorem Aft.drewN {Wx W : World} (h : Aft Wx W) (m : Nat) : Aft Wx (W.drewN m) := below_drewN h m

structure Chk (Wx : World) (xb : Nat) (a1 : Option Addr) (n1 c1 : Nat) (a2 : Option Addr) (n2 c2 : Nat) (n : Nat) (fs : List Fil) (af : Option Addr) (σ : St) : Prop where
  hn1 : n1 = σ.nb
  hn2 : n2 = σ.nb
  box : ∀ W, Aft Wx W → W.cell? ⟨xb, 0, none⟩ = some (.slice none 0 0) ∧ W.cell? ⟨xb, 1, none⟩ = some (.slice a1 n1 c1) ∧ W.cell? ⟨xb, 2, none⟩ = some (.slice a2 n2 c2) ∧ xb < W.heap.size
  c19 : ∀ W, Aft Wx W → Calls Try.prog 19 #[ixo a1 n1 c1 a2 n2 c2] W fun e w' => e = .returned (.slice none 0 0) ∧ Hid (Aft Wx w')
  c20 : ∀ W, Aft Wx W → Calls Try.prog 20 #[ixo a1 n1 c1 a2 n2 c2] W fun e w' => e = .returned (.slice a1 n1 c1) ∧ Hid (Aft Wx w')
  c21 : ∀ W, Aft Wx W → Calls Try.prog 21 #[ixo a1 n1 c1 a2 n2 c2] W fun e w' => e = .returned (.int .i64 n2) ∧ Hid (Aft Wx w')
  c23 : ∀ b, b < σ.nb → ∃ a, (∀ W, Aft Wx W → Calls Try.prog 23 #[ixo a1 n1 c1 a2 n2 c2, .int .i64 b] W fun e w' => e = .returned (.slice a (itlen (σ.it b)) (itlen (σ.it b))) ∧ Hid (Aft Wx w')) ∧
    ∀ W, Aft Wx W → Calls Try.prog 24 #[.slice a (itlen (σ.it b)) (itlen (σ.it b))] W fun e w' => e = .returned (.bool true) ∧ Hid (Aft Wx w')
  c25 : ∀ b, b < σ.nb → ∀ W, Aft Wx W → Calls Try.prog 25 #[ixo a1 n1 c1 a2 n2 c2, .int .i64 b] W fun e w' => e = .returned (.int .i64 (σ.no b)) ∧ Hid (Aft Wx w')
  c26 : ∀ b j, b < σ.nb → j < σ.no b → ∃ yb c, (∀ W, Aft Wx W → Calls Try.prog 26 #[ixo a1 n1 c1 a2 n2 c2, .int .i64 b, .int .i64 j] W fun e w' => e = .returned (.slice (some ⟨yb, 0, none⟩) (σ.ps b j).length c) ∧ Hid (Aft Wx w')) ∧
    ∀ W, Aft Wx W → yb < W.heap.size ∧ ∀ i, i < (σ.ps b j).length → W.cell? ⟨yb, i, none⟩ = some (.string (nm (σ.ps b j) i))
  c27 : ∀ b j, b < σ.nb → j < σ.no b → ∀ W, Aft Wx W → Calls Try.prog 27 #[ixo a1 n1 c1 a2 n2 c2, .int .i64 b, .int .i64 j] W fun e w' => e = .returned (.int .i64 (σ.ps b j).length) ∧ Hid (Aft Wx w')
  c28 : ∀ b j i, b < σ.nb → j < σ.no b → i < (σ.ps b j).length → ∃ a, (∀ W, Aft Wx W → Calls Try.prog 28 #[ixo a1 n1 c1 a2 n2 c2, .int .i64 b, .int .i64 j, .int .i64 i] W fun e w' => e = .returned (.slice a (rg (σ.rs b j) i).2 (rg (σ.rs b j) i).2) ∧ Hid (Aft Wx w')) ∧
    ∀ W, Aft Wx W → Calls Try.prog 24 #[.slice a (rg (σ.rs b j) i).2 (rg (σ.rs b j) i).2] W fun e w' => e = .returned (.bool true) ∧ Hid (Aft Wx w')
  c29 : ∀ k, k < n → ∀ W, Aft Wx W → Calls Try.prog 29 #[ixo a1 n1 c1 a2 n2 c2, .slice a1 n1 c1, .agg #[.string (fl fs k).b, .int .u8 (fl fs k).l, .string (fl fs k).p, .int .i64 (fl fs k).s]] W fun e w' => e = .returned (.bool true) ∧ Hid (Aft Wx w')
  cb : 0 < σ.nb → ∃ yb, a1 = some ⟨yb, 0, none⟩ ∧ ∀ W, Aft Wx W → yb < W.heap.size ∧ ∀ i, i < σ.nb → W.cell? ⟨yb, i, none⟩ = some (.string (nm σ.N i))
  cf : ∀ W, Aft Wx W → Fils W af n n fs
  inv : IxP fs n σ
  z : flen fs ≤ 1048576

theorem toAft {Wx W : World} (h : Aft Wx W) {f : FuncId} {args : Array Value} {v : Value} (hc : Calls Try.prog f args W fun e w' => e = .returned v ∧ ∃ o, w' = W.alloc o) : Calls Try.prog f args W fun e w' => e = .returned v ∧ Hid (Aft Wx w') := by
  refine hc.mono ?_
  rintro e w' ⟨he, o, rfl⟩
  exact ⟨he, h.next (below_alloc _ _)⟩
theorem toAftD {Wx W : World} (h : Aft Wx W) {f : FuncId} {args : Array Value} {v : Value} (hc : Calls Try.prog f args W fun e w' => e = .returned v ∧ ∃ m, w' = W.drewN m) : Calls Try.prog f args W fun e w' => e = .returned v ∧ Hid (Aft Wx w') := by
  refine hc.mono ?_
  rintro e w' ⟨he, o, rfl⟩
  exact ⟨he, h.drewN _⟩
theorem toAftB {Wx W : World} (h : Aft Wx W) {f : FuncId} {args : Array Value} {v : Value} (hc : Calls Try.prog f args W fun e w' => e = .returned v ∧ Below W.heap.size W w') : Calls Try.prog f args W fun e w' => e = .returned v ∧ Hid (Aft Wx w') := by
  refine hc.mono ?_
  rintro e w' ⟨he, hb⟩
  exact ⟨he, h.next hb⟩

theorem chk_of {w Wx : World} {xb n : Nat} {a1 a2 af : Option Addr} {n1 c1 n2 c2 : Nat} {fs : List Fil} (ho : IxOut w n fs (.slice a1 n1 c1) (.slice a2 n2 c2)) (hw : Below w.heap.size w Wx)
    (hx : ∀ W, Aft Wx W → W.cell? ⟨xb, 0, none⟩ = some (.slice none 0 0) ∧ W.cell? ⟨xb, 1, none⟩ = some (.slice a1 n1 c1) ∧ W.cell? ⟨xb, 2, none⟩ = some (.slice a2 n2 c2) ∧ xb < W.heap.size)
    (hf : Fils Wx af n n fs) (hn : n ≤ 65536) (hz : flen fs ≤ 1048576) : ∃ σ, Chk Wx xb a1 n1 c1 a2 n2 c2 n fs af σ := by
  obtain ⟨X, σ, g, own, st, hB, hY, h0, hst, hP⟩ := ho
  have h : ∀ W, Aft Wx W → IxM W X X (X + 1) n own st σ g := fun W hW => h0.below (hw.trans (hW.mono hw.size))
  have hr : Aft Wx Wx := Below.refl _ _
  have e1 : n1 = σ.nb := by
    have h1 := (h Wx hr).hb.1
    rw [hB] at h1
    obtain ⟨_, h2⟩ := rowStrs h1
    rw [h2]; exact hP.len
  have e2 : n2 = σ.nb := by
    obtain ⟨a, c, hv⟩ := row_shape (h Wx hr).hy.1
    rw [hY] at hv
    cases hv; rfl
  refine ⟨σ, e1, e2, hx, fun W hW => toAft hW (always_any _ _ _ _ _ _ _), fun W hW => toAft hW (buckets_any _ _ _ _ _ _ _), fun W hW => toAft hW (count_any _ _ _ _ _ _ _), ?_, ?_, ?_, ?_, ?_, ?_, ?_, fun W hW => hf.later hW (Nat.le_refl _), hP, hz⟩
  · intro b hb
    cases hi : σ.it b with
    | none =>
      refine ⟨none, fun W hW => ?_, fun W hW => ?_⟩
      · have := itself_any (a1 := a1) (n1 := n1) (c1 := c1) (h W hW) hY hb
        rw [hi] at this
        exact toAft hW this
      · exact toAftD hW (rising_any none 0 0 (fun _ => 0) W (fun h => by omega) (by omega) (fun i hi => by omega))
    | some r =>
      obtain ⟨o1, o2, o3⟩ := (hP.bk b hb).it r hi
      refine ⟨some ⟨X + 1, r.1, none⟩, fun W hW => ?_, fun W hW => ?_⟩
      · have := itself_any (a1 := a1) (n1 := n1) (c1 := c1) (h W hW) hY hb
        rw [hi] at this
        exact toAft hW this
      · refine toAftD hW (rising_any _ r.2 _ (fun j => st (r.1 + j)) W (range_ints (h W hW) o2) (by omega) (fun i hi => ?_))
        have := o3 (r.1 + i) (by omega) (by omega)
        rw [hst _ (by omega), hst _ (by omega)]; exact this
  · intro b hb W hW
    exact toAft hW (groups_any (h W hW) hY hb)
  · intro b j hb hj
    have hG : GrpOk fs n (σ.ps b j) (σ.rs b j) := (hP.bk b hb).grp j hj
    obtain ⟨gp, cp, hv, _⟩ := row_val ((h Wx hr).hp b j hb hj).1 hG.pos
    refine ⟨gp, cp, fun W hW => ?_, fun W hW => ⟨?_, fun i hi => (h W hW).pC hb hj hv hi⟩⟩
    · have := prefixes_any (a1 := a1) (n1 := n1) (c1 := c1) (h W hW) hY hb hj
      rw [hv] at this
      exact toAft hW this
    · obtain ⟨gp2, cp2, hv2, hl2⟩ := row_val ((h W hW).hp b j hb hj).1 hG.pos
      rw [hv] at hv2; cases hv2; exact hl2
  · intro b j hb hj W hW
    have hG : GrpOk fs n (σ.ps b j) (σ.rs b j) := (hP.bk b hb).grp j hj
    have := lists_any (a1 := a1) (n1 := n1) (c1 := c1) (h W hW) hY hb hj
    rw [hG.len] at this
    exact toAft hW this
  · intro b j i hb hj hi
    have hG : GrpOk fs n (σ.ps b j) (σ.rs b j) := (hP.bk b hb).grp j hj
    obtain ⟨o1, o2, o3⟩ := hG.run i hi
    refine ⟨some ⟨X + 1, (rg (σ.rs b j) i).1, none⟩, fun W hW => ?_, fun W hW => ?_⟩
    · exact toAft hW (list_any (h W hW) hY hb hj (by rw [hG.len]; exact hi))
    · refine toAftD hW (rising_any _ _ _ (fun q => st ((rg (σ.rs b j) i).1 + q)) W (range_ints (h W hW) o2) (by omega) (fun q hq => ?_))
      have := o3 ((rg (σ.rs b j) i).1 + q) (by omega) (by omega)
      rw [hst _ (by omega), hst _ (by omega)]; exact this
  · intro k hk W hW
    exact toAftB hW (holds_any (h W hW) hB hY hP hst hn hz k hk _ rfl)
  · intro h0
    obtain ⟨gb, cb, hv, _⟩ := row_val (h Wx hr).hb.1 (i := 0) (by rw [hP.len]; exact h0)
    have hv' := hv
    rw [hB] at hv'
    cases hv'
    refine ⟨gb, rfl, fun W hW => ⟨?_, fun i hi => (h W hW).bC hv (by rw [hP.len]; exact hi)⟩⟩
    obtain ⟨gp2, cp2, hv2, hl2⟩ := row_val (h W hW).hb.1 (i := 0) (by rw [hP.len]; exact h0)
    rw [hv] at hv2; cases hv2; exact hl2
end Go.Proofs.Qxb6600942a
