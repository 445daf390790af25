/-
  BUILDINDEX, WHOLE.
-/
import Derived.Test.Qxb6600942aIxWalk
import Derived.Test.Qxb6600942aIxMain
namespace Go.Proofs.Qxb6600942a
open Go.RowKit
set_option linter.unusedVariables false

/-- What is known of an index at and behind block B. -/
def Ixd (B n : Nat) (fs : List Fil) (v : Value) (W : World) : Prop :=
  ∃ a1 n1 c1 a2 n2 c2, v = ixv a1 n1 c1 a2 n2 c2 ∧ ∃ X, B ≤ X ∧ IxRes W X n fs (IxP fs) (.slice a1 n1 c1) (.slice a2 n2 c2)
theorem IxRes.other {w w' : World} {X n : Nat} {fs : List Fil} {P : Nat → St → Prop} {vB vY : Value} (h : IxRes w X n fs P vB vY) (hk : ∀ k, X ≤ k → k < w.heap.size → w'.heap[k]? = w.heap[k]?) : IxRes w' X n fs P vB vY := by
  obtain ⟨σ, g, own, st, h1, h2, h3, h4, h5⟩ := h
  exact ⟨σ, g, own, st, h1, h2, h3.other hk, h4, h5⟩

set_option maxRecDepth 100000 in
set_option maxHeartbeats 1000000 in
/-- ZZNewResourceIndex. -/
theorem zzindex_any (g n B : Nat) (fs : List Fil) (w : World) (hS : Fils w (some ⟨g, 0, none⟩) n n fs) (hn : n ≤ 65536) (hV : Valid fs) (hB : B ≤ w.heap.size) :
    Calls Try.prog 37 #[.slice (some ⟨g, 0, none⟩) n n] w fun e w' => ∃ a1 n1 c1 a2 n2 c2, e = .returned (ixv a1 n1 c1 a2 n2 c2) ∧ Ixd B n fs (ixv a1 n1 c1 a2 n2 c2) w' ∧ Below w.heap.size w w' := by
  have hfl := hS.1
  have hC := index_any g n fs (w.alloc (.cells #[.slice none 0 0, .slice none 0 0, .slice none 0 0] 39)) (hS.later (below_alloc _ _) (Nat.le_refl _)) hn (IxP fs) (IxP.zero fs) (fun m σ h => h.fits) (fun j hj => hV.lev j (by omega))
    (fun m m' σ σ' hP h1 h2 h3 h4 h5 => ixp_step hV hP h1 (by omega) h3 (fun h => h4 (by omega)) h5)
  have HC : Hid (Calls Try.prog 41 #[.slice (some ⟨g, 0, none⟩) n n] (w.alloc (.cells #[.slice none 0 0, .slice none 0 0, .slice none 0 0] 39)) fun e w' => ∃ a1 n1 c1 a2 n2 c2, e = .returned (ixv a1 n1 c1 a2 n2 c2) ∧
      Hid (IxRes w' ((w.alloc (.cells #[.slice none 0 0, .slice none 0 0, .slice none 0 0] 39)).heap.size + 1) n fs (IxP fs) (.slice a1 n1 c1) (.slice a2 n2 c2)) ∧ Below (w.alloc (.cells #[.slice none 0 0, .slice none 0 0, .slice none 0 0] 39)).heap.size (w.alloc (.cells #[.slice none 0 0, .slice none 0 0, .slice none 0 0] 39)) w') := hC
  clear hC hS hV
  go_enter Try.func37, Try.ntmps37
  go_wp2_with fail
  refine HC.out.mono ?_
  rintro e w2 ⟨a1, n1, c1, a2, n2, c2, rfl, HR, hb2⟩
  rw [World.size_alloc] at hb2
  unfold ixv at *
  have hblk : w2.heap[w.heap.size]? = some (.cells #[.slice none 0 0, .slice none 0 0, .slice none 0 0] 39) := by
    rw [hb2.block _ (by omega)]; exact heap_alloc_new _ _
  have g0 : w2.cell? ⟨w.heap.size, 0, none⟩ = some (.slice none 0 0) := by simp [World.cell?, hblk]
  have g1 : w2.cell? ⟨w.heap.size, 1, none⟩ = some (.slice none 0 0) := by simp [World.cell?, hblk]
  have g2 : w2.cell? ⟨w.heap.size, 2, none⟩ = some (.slice none 0 0) := by simp [World.cell?, hblk]
  have f0 : ∀ j, w2.frozen? ⟨w.heap.size, j, none⟩ = false := fun j => by simp [World.frozen?, hblk]
  have hbb : Below w.heap.size w w2 := ((Below.refl _ _).alloc (Nat.le_refl _) _).trans (hb2.mono (by omega))
  clear hblk
  have e0 : ∀ u, (w2.setCell ⟨w.heap.size, 0, none⟩ u).cell? ⟨w.heap.size, 1, none⟩ = some (.slice none 0 0) := fun u => by rw [World.cell?_setCell_other _ _ _ _ (by simp)]; exact g1
  go_wp2
  refine bodyPost_ret (v := .agg #[.slice none 0 0, .slice a1 n1 c1, .slice a2 n2 c2]) ?_ rfl ⟨a1, n1, c1, a2, n2, c2, rfl, ⟨a1, n1, c1, a2, n2, c2, rfl, w.heap.size + 1 + 1, by omega, ?_⟩, ?_⟩
  · simp [results, Try.results37, go_sem, g0, g1, g2]
  · have h1 := HR.out
    rw [World.size_alloc] at h1
    refine h1.other fun j hj1 hj2 => ?_
    rw [Below.heap_setCell _ _ _ _ (by simp; omega), Below.heap_setCell _ _ _ _ (by simp; omega), Below.heap_setCell _ _ _ _ (by simp; omega)]
  · exact ((hbb.setCell (Nat.le_refl _) _).setCell (Nat.le_refl _) _).setCell (Nat.le_refl _) _

theorem builds_all (n : Nat) (fs : List Fil) : Builds n fs := by
  intro a W hS hn hV
  refine (build_any a n n fs W hS (by omega) (Ixd (W.heap.size + 1) n fs) ?_ (fun g w1 hS1 hW1 => zzindex_any g n (W.heap.size + 1) fs w1 hS1 hn hV hW1)).mono ?_
  · rintro v W1 W2 ⟨a1, n1, c1, a2, n2, c2, hv, X, hX, hR⟩ hk
    exact ⟨a1, n1, c1, a2, n2, c2, hv, X, hX, hR.other fun k h1 h2 => hk k (by omega) h2⟩
  · rintro e w' ⟨a1, n1, c1, a2, n2, c2, rfl, ⟨b1, m1, d1, b2, m2, d2, hv, X, hX, σ, g, own, st, h1, h2, h3, h4, h5⟩, hb⟩
    refine ⟨a1, n1, c1, a2, n2, c2, rfl, ⟨X, σ, g, own, st, ?_, ?_, h3, h4, h5⟩, hb⟩
    · unfold ixv at hv; simp at hv; obtain ⟨⟨rfl, rfl, rfl⟩, rfl, rfl, rfl⟩ := hv; exact h1
    · unfold ixv at hv; simp at hv; obtain ⟨⟨rfl, rfl, rfl⟩, rfl, rfl, rfl⟩ := hv; exact h2
end Go.Proofs.Qxb6600942a
