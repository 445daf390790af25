import Derived.Test.Qxb6600845aCopied
import Derived.Deep.QuietTactic
import Derived.BigQuiet
import Derived.Deep.LoopGhost
import Derived.WalkSmall
namespace Go.Proofs.Qxb6600845a
open Go.RowKit
set_option linter.unusedVariables false

/-- One of the four whitespace bytes. -/
def isSp (c : Int) : Bool := c == 32 || (c == 9 || (c == 10 || c == 13))
theorem isSp_cases {c : Int} (h : isSp c = true) : c = 32 ∨ c = 9 ∨ c = 10 ∨ c = 13 := by simpa [isSp] using h
theorem isSp_no {c : Int} (h : isSp c = false) : (c == 32) = false ∧ (c == 9) = false ∧ (c == 10) = false ∧ (c == 13) = false := by simpa [isSp] using h

theorem space_any (c : Int) (w : World) :
    Calls Try.prog 14 #[.int .u8 c] w fun e w' => e = .returned (.bool (isSp c)) ∧ w = w' := by
  cases h : isSp c
  · obtain ⟨h1, h2, h3, h4⟩ := isSp_no h
    clear h
    go_enter Try.func14, Try.ntmps14
    go_wp2
    go_ret
    exact ⟨rfl, rfl⟩
  · rcases isSp_cases h with rfl | rfl | rfl | rfl
    all_goals
      clear h
      go_enter Try.func14, Try.ntmps14
      go_wp2
      go_ret
      exact ⟨rfl, rfl⟩

set_option maxHeartbeats 400000 in
/-- skipSpace at or past the end: it does not move. -/
theorem skip_out (b : Nat) (a : Option Addr) (n cap p : Nat) (w : World) (hn : n ≤ 4194304) (hp : p ≤ 4194304) (h : n ≤ p)
    (h0 : w.cell? ⟨b, 0, none⟩ = some (.slice a n cap)) (h2 : w.cell? ⟨b, 2, none⟩ = some (.int .i64 p)) :
    Calls Try.prog 18 #[.pointer (some ⟨b, 0, none⟩)] w fun e w' => e = .returned (.tuple #[]) ∧ ∃ k, w' = w.drewN k := by
  go_enter Try.func18, Try.ntmps18
  go_wp2
  go_loopg [] 0 (fun k wr => wr = w)
  case atStart => rfl
  case round =>
    subst hrel
    go_wp2
    go_quiet (fail)
    go_wp2
    go_end0
    exact ⟨rfl, _, rfl⟩

/-- Where skipSpace ends. -/
def Lands (zs : List Int) (p q : Nat) : Prop := p ≤ q ∧ q ≤ zs.length ∧ (∀ j, p ≤ j → j < q → isSp (zs.getD j 0) = true) ∧ (q < zs.length → isSp (zs.getD q 0) = false)

/-- The world behind the store of the new position. -/
theorem store_pos {w wr : World} {b k : Nat} {u0 u2 v : Value} (g0 : wr.cell? ⟨b, 0, none⟩ = some u0) (g2 : wr.cell? ⟨b, 2, none⟩ = some u2) (gf : wr.frozen? ⟨b, 2, none⟩ = false) (hbl : Below b w wr) :
    ((wr.drewN k).setCell ⟨b, 2, none⟩ v).cell? ⟨b, 0, none⟩ = some u0 ∧ ((wr.drewN k).setCell ⟨b, 2, none⟩ v).cell? ⟨b, 2, none⟩ = some v ∧ ((wr.drewN k).setCell ⟨b, 2, none⟩ v).frozen? ⟨b, 2, none⟩ = false ∧ Below b w ((wr.drewN k).setCell ⟨b, 2, none⟩ v) := by
  refine ⟨?_, World.cell?_setCell_same _ _ _ g2, ?_, (below_drewN hbl _).setCell (Nat.le_refl _) _⟩
  · rw [World.cell?_setCell_other _ _ _ _ (by simp)]; exact g0
  · rw [World.frozen?_setCell]; exact gf

set_option maxHeartbeats 1000000 in
/-- skipSpace before the end. -/
theorem skip_in (b db off n cap p : Nat) (zs : List Int) (w : World) (hn : n ≤ 4194304) (h : p ≤ n) (hz : zs.length = n) (hdb : db < b)
    (h0 : w.cell? ⟨b, 0, none⟩ = some (.slice (some ⟨db, off, none⟩) n cap)) (h2 : w.cell? ⟨b, 2, none⟩ = some (.int .i64 p)) (hf : w.frozen? ⟨b, 2, none⟩ = false)
    (hc : ∀ j, j < n → w.cell? ⟨db, off + j, none⟩ = some (.int .u8 (zs.getD j 0))) :
    Calls Try.prog 18 #[.pointer (some ⟨b, 0, none⟩)] w fun e w' => e = .returned (.tuple #[]) ∧ ∃ q : Nat, Lands zs p q ∧ w'.cell? ⟨b, 2, none⟩ = some (.int .i64 q) ∧ Below b w w' := by
  have HZ : Hid (zs.length = n) := hz
  have HC : Hid (∀ j, j < n → w.cell? ⟨db, off + j, none⟩ = some (.int .u8 (zs.getD j 0))) := hc
  clear hz hc
  go_enter Try.func18, Try.ntmps18
  go_wp2
  go_loopg [] (n - p) (fun k wr => ∃ q : Nat, Hid (k + q = n) ∧ p ≤ q ∧ q ≤ n ∧ Hid (∀ j, p ≤ j → j < q → isSp (zs.getD j 0) = true) ∧ wr.cell? ⟨b, 0, none⟩ = some (.slice (some ⟨db, off, none⟩) n cap) ∧ wr.cell? ⟨b, 2, none⟩ = some (.int .i64 q) ∧ wr.frozen? ⟨b, 2, none⟩ = false ∧ Below b w wr)
  case atStart => exact ⟨p, (show _ = _ by omega), by omega, h, fun j h1 h2 => by omega, h0, h2, hf, Below.refl _ _⟩
  case round =>
    clear h0 h2 hf
    obtain ⟨q, HK, hpq, hqn, HS, g0, g2, gf, hbl⟩ := hrel
    by_cases hlt : q < n
    · have hcq : wr.cell? ⟨db, off + q, none⟩ = some (.int .u8 (zs.getD q 0)) := by rw [hbl.cell hdb]; exact HC.out q hlt
      obtain ⟨c, hcc⟩ : ∃ c, c = zs.getD q 0 := ⟨_, rfl⟩
      rw [← hcc] at hcq
      have HQ : Hid (c = zs.getD q 0) := hcc
      clear hcc
      have i1 : (q : Int) < n := by omega
      cases hsp : isSp c
      · have HSP : Hid (isSp c = false) := hsp
        obtain ⟨e1, e2, e3, e4⟩ := isSp_no hsp
        clear hsp
        go_wp2
        go_quiet (fail)
        go_wp2
        go_quiet (fail)
        go_wp2
        refine bodyPost_ret (results_none rfl _ _ _) rfl ?_
        refine ⟨rfl, q, ⟨hpq, by rw [HZ.out]; exact hqn, HS.out, fun _ => by rw [← HQ.out]; exact HSP.out⟩, ?_, ?_⟩
        · simpa using g2
        · exact below_drewN hbl _
      · have HS' : Hid (∀ j, p ≤ j → j < q + 1 → isSp (zs.getD j 0) = true) := by
          intro j h1 h2
          by_cases e : j = q
          · rw [e, ← HQ.out]; exact hsp
          · exact HS.out j h1 (by omega)
        have hk : q < n := hlt
        rcases isSp_cases hsp with rfl | rfl | rfl | rfl
        all_goals
          clear hsp
          go_wp2
          go_quiet (fail)
          go_wp2
          go_quiet (fail)
          go_wp2
          go_roundg (gk - 1)
          case measure => have := HK.out; omega
          case rel => exact ⟨q + 1, (show _ = _ by have := HK.out; omega), by omega, by omega, HS', (store_pos g0 g2 gf hbl).1, (store_pos g0 g2 gf hbl).2.1, (store_pos g0 g2 gf hbl).2.2.1, (store_pos g0 g2 gf hbl).2.2.2⟩
    · obtain rfl : q = n := by omega
      go_wp2
      go_quiet (fail)
      go_wp2
      go_end0
      refine ⟨rfl, q, ⟨hpq, by rw [HZ.out]; exact hqn, HS.out, fun h => by rw [HZ.out] at h; omega⟩, ?_, ?_⟩
      · simpa using g2
      · exact below_drewN hbl _
end Go.Proofs.Qxb6600845a
