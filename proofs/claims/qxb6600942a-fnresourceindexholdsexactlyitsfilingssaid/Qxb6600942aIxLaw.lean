import Derived.Test.Qxb6600942aIxPlain
import Derived.Deep.RegionLaw
namespace Go.Proofs.Qxb6600942a
open Go.RowKit
set_option linter.unusedVariables false

/-- An append onto a row of the call's own, as one step of a region that draws its order: what is left behind is told as by 'run_append_own_at'. -/
theorem step_append_own_at {P : Program} {ops : Array Oper} {o : Oper} {a : Act} {w : World} {K : Act → World → Prop} {Q : Exit → Act → World → Prop} {E : Prop} (hgd : o.guard = none) (s x : Operand) (t : TypeId)
    (ho : o.op = .call { callee := .builtin .append, args := #[s, x], argTypes := #[t, t] })
    (base : Nat) (e : TypeId) (i : TypeInfo) (z : Value) (size bytes : Nat) (ht : P.underlying t = some (.slice e)) (hi : P.info? e = some i) (hz : i.zero = some z)
    (hsize : i.size = size) (hby : i.bytes = bytes) (hzs : z.cells.size = size) (hsz : 0 < size)
    (v : Value) (n : Nat) (xs : List Value) (hs : a.eval s = v) (hown : w.ownsRow base e size v n xs)
    (ad : Addr) (m c : Nat) (news : List Value) (hx : a.eval x = .slice (some ad) m c) (hl : news.length = m * size) (hnews : ∀ j u, news[j]? = some u → w.cell? (ad.add j) = some u) (h1 : ∀ u ∈ news, u.oneCell' = true)
    (h63 : n + m ≤ maxLen) (hbytes : (n + m) * bytes ≤ 140737488355328) (hbase : base ≤ w.heap.size)
    (h : ∀ v' w', w'.ownsRow base e size v' (n + m) (xs ++ news) → w.grownBy w' v.ownBlock → (v'.ownBlock = v.ownBlock ∨ v'.ownBlock = some w.heap.size) → K (a.put o.dst v') w') :
    if Region.wanted o (yielded ops a.tmps) = true then Oper.wp P o a w K Q else E := by
  have hw : Region.wanted o (yielded ops a.tmps) = true := by simp [Region.wanted, hgd]
  rw [if_pos hw]
  obtain ⟨v', w', hr, h2, h3, h4, h5⟩ := run_append_own_at (P := P) w base t o.type e i z size bytes ht hi hz hsize hby hzs hsz v n xs hown ad m c news hl hnews h1 h63 hbytes hbase
  unfold Oper.wp execOp
  simp only [ho, resolve, invoke, builtin, Sem.run_bind, Sem.run_pure, Result.andThen_ok, List.map_toArray, List.map_cons, List.map_nil, hs, hx, hr]
  exact h v' w' h2 h3 h5

/-- Behind an append to row t the row t2 lies as it lay. -/
theorem RowAt.behind {w w1 w2 : World} {B : Nat} {own : Nat → Tag} {t t2 : Tag} {e size n e2 size2 n2 : Nat} {v v2 : Value} {xs ys : List Value} (h2 : RowAt w B own t2 e2 size2 v2 n2 ys) (h : RowAt w B own t e size v n xs) (hne : t ≠ t2) (hg1 : w.grownBy w1 none) (hg2 : w1.grownBy w2 v.ownBlock) : RowAt w2 B own t2 e2 size2 v2 n2 ys := by
  have hgg : w.grownBy w2 v.ownBlock := ⟨hg2.os.trans hg1.os, hg2.tape.trans hg1.tape, hg2.output.trans hg1.output, Nat.le_trans hg1.size hg2.size,
    fun k hk hr => (hg2.block k (Nat.lt_of_lt_of_le hk hg1.size) hr).trans (hg1.block k hk (by simp))⟩
  exact h2.kept hgg (fun g hg e => hne (by rw [← e]; exact (h.2 g hg).symm)) (fun _ _ => rfl)
/-- The shape of a slice that is not empty. -/
theorem own_shape {w : World} {B e size n : Nat} {v : Value} {xs : List Value} (h : w.ownsRow B e size v (n + 1) xs) : ∃ g cap, v = .slice (some ⟨g, 0, none⟩) (n + 1) cap := by
  rcases h.2 with ⟨_, h0⟩ | ⟨g, cap, cur, rfl, _⟩
  · omega
  · exact ⟨g, cap, rfl⟩
/-- Old memory is not touched by an append to a row of the call's own. -/
theorem below_app {w w1 w2 W0 : World} {B : Nat} {e size n : Nat} {v : Value} {xs : List Value} (hb : Below B W0 w) (hB : B ≤ w.heap.size) (hg1 : w.grownBy w1 none) (h : w.ownsRow B e size v n xs) (hg2 : w1.grownBy w2 v.ownBlock) : Below B W0 w2 := by
  refine ((hb.grown hg1 hB (fun k h => by simp at h)).grown hg2 (Nat.le_trans hB hg1.size) (fun k hk => ?_))
  rcases h.2 with ⟨rfl, _⟩ | ⟨g, cap, cur, rfl, hbg, _⟩
  · simp [Value.ownBlock] at hk
  · simp [Value.ownBlock] at hk; omega
/-- Two new cells. -/
theorem cell_pair_new (w : World) (x y : Value) (t : TypeId) : ∀ j u, [x, y][j]? = some u → (w.alloc (.cells #[x, y] t)).cell? ((⟨w.heap.size, 0, none⟩ : Addr).add j) = some u := by
  intro j u hj
  rw [Addr.add_lit, Nat.zero_add, World.cell?_alloc_new]
  match j, hj with
  | 0, hj => simpa using hj
  | 1, hj => simpa using hj

theorem own_ge {w : World} {B e size n g cap k : Nat} {xs : List Value} (h : w.ownsRow B e size (.slice (some ⟨g, 0, none⟩) k cap) n xs) : B ≤ g := by
  rcases h.2 with ⟨h0, _⟩ | ⟨g', cap', cur, hh, hbg, _⟩
  · cases h0
  · cases hh; exact hbg
section arms
variable {w w1 w2 W0 : World} {X S n : Nat} {own : Nat → Tag} {st : Nat → Int} {σ : St} {g : Gh} {v' : Value}
theorem IxM.sizeX (h : IxM w X X S n own st σ g) : X ≤ w.heap.size := Nat.le_of_lt (block_lt h.hx.1 rfl)
theorem IxM.armName {b : ByteArray} (h : IxM w X X S n own st σ g) (hb : Below X W0 w) (hg1 : w.grownBy w1 none) (hown : w2.ownsRow X 9 1 v' (σ.N.length + 1) (texts σ.N ++ [.string b])) (hg2 : w1.grownBy w2 g.vB.ownBlock) (hloc : v'.ownBlock = g.vB.ownBlock ∨ v'.ownBlock = some w1.heap.size) :
    w2.cell? ⟨X, 1, none⟩ = some g.vB ∧ w2.frozen? ⟨X, 1, none⟩ = false ∧ Hid (∃ own', IxM (w2.setCell ⟨X, 1, none⟩ v') X X S n own' st (σ.addName b) { g with vB := v' }) ∧ Hid (Below X W0 (w2.setCell ⟨X, 1, none⟩ v')) := by
  have r := RowAt.behind h.hx h.hb (by simp) hg1 hg2
  refine ⟨by rw [r.1.cellAt 1 (by omega)]; rfl, r.1.frozenAt 1, ⟨_, h.addName hg1 hown hg2 hloc⟩, (below_app hb h.sizeX hg1 h.hb.1 hg2).setCell (Nat.le_refl _) _⟩
theorem IxM.armBk (h : IxM w X X S n own st σ g) (hb : Below X W0 w) (hg1 : w.grownBy w1 none) (hown : w2.ownsRow X 70 2 v' (σ.nb + 1) (cells2 σ.nb (fun i => itv S (σ.it i)) g.vo ++ [.slice none 0 0, .slice none 0 0])) (hg2 : w1.grownBy w2 g.vY.ownBlock) (hloc : v'.ownBlock = g.vY.ownBlock ∨ v'.ownBlock = some w1.heap.size) :
    w2.cell? ⟨X, 2, none⟩ = some g.vY ∧ w2.frozen? ⟨X, 2, none⟩ = false ∧ Hid (∃ own' g', IxM (w2.setCell ⟨X, 2, none⟩ v') X X S n own' st σ.addBk g') ∧ Hid (Below X W0 (w2.setCell ⟨X, 2, none⟩ v')) := by
  have r := RowAt.behind h.hx h.hy (by simp) hg1 hg2
  refine ⟨by rw [r.1.cellAt 2 (by omega)]; rfl, r.1.frozenAt 2, ⟨_, _, h.addBk hg1 hown hg2 hloc⟩, (below_app hb h.sizeX hg1 h.hy.1 hg2).setCell (Nat.le_refl _) _⟩
theorem IxM.armOb {gy cy i : Nat} (h : IxM w X X S n own st σ g) (hb : Below X W0 w) (hi : i < σ.nb) (hy : g.vY = .slice (some ⟨gy, 0, none⟩) σ.nb cy) (hg1 : w.grownBy w1 none) (hown : w2.ownsRow X 73 2 v' (σ.no i + 1) (cells2 (σ.no i) (g.vp i) (g.vl i) ++ [.slice none 0 0, .slice none 0 0])) (hg2 : w1.grownBy w2 (g.vo i).ownBlock) (hloc : v'.ownBlock = (g.vo i).ownBlock ∨ v'.ownBlock = some w1.heap.size) :
    w2.cell? ⟨gy, i * 2 + 1, none⟩ = some (g.vo i) ∧ w2.frozen? ⟨gy, i * 2 + 1, none⟩ = false ∧ Hid (∃ own' g', g'.vY = g.vY ∧ IxM (w2.setCell ⟨gy, i * 2 + 1, none⟩ v') X X S n own' st (σ.addOb i) g') ∧ Hid (Below X W0 (w2.setCell ⟨gy, i * 2 + 1, none⟩ v')) := by
  have h2 := h.hy
  rw [hy] at h2
  have r := RowAt.behind h2 (h.ho i hi) (by simp) hg1 hg2
  refine ⟨by rw [r.1.cellAt _ (by omega), cells2_odd _ _ hi], r.1.frozenAt _, ⟨_, _, ?_, h.addOb hi hy hg1 hown hg2 hloc⟩, (below_app hb h.sizeX hg1 (h.ho i hi).1 hg2).setCell (own_ge h2.1) _⟩
  rfl
theorem IxM.armP {go co i j : Nat} {p : ByteArray} (h : IxM w X X S n own st σ g) (hb : Below X W0 w) (hi : i < σ.nb) (hj : j < σ.no i) (ho : g.vo i = .slice (some ⟨go, 0, none⟩) (σ.no i) co) (hg1 : w.grownBy w1 none) (hown : w2.ownsRow X 9 1 v' ((σ.ps i j).length + 1) (texts (σ.ps i j) ++ [.string p])) (hg2 : w1.grownBy w2 (g.vp i j).ownBlock) (hloc : v'.ownBlock = (g.vp i j).ownBlock ∨ v'.ownBlock = some w1.heap.size) :
    w2.cell? ⟨go, j * 2, none⟩ = some (g.vp i j) ∧ w2.frozen? ⟨go, j * 2, none⟩ = false ∧ Hid (∃ own' g', g'.vo = g.vo ∧ IxM (w2.setCell ⟨go, j * 2, none⟩ v') X X S n own' st (σ.addP i j p) g') ∧ Hid (Below X W0 (w2.setCell ⟨go, j * 2, none⟩ v')) := by
  have h2 := h.ho i hi
  rw [ho] at h2
  have r := RowAt.behind h2 (h.hp i j hi hj) (by simp) hg1 hg2
  refine ⟨by rw [r.1.cellAt _ (by omega), cells2_even _ _ hj], r.1.frozenAt _, ⟨_, _, ?_, h.addP hi hj ho hg1 hown hg2 hloc⟩, (below_app hb h.sizeX hg1 (h.hp i j hi hj).1 hg2).setCell (own_ge h2.1) _⟩
  rfl
theorem IxM.armL {go co i j : Nat} {r0 : Nat × Nat} (h : IxM w X X S n own st σ g) (hb : Below X W0 w) (hi : i < σ.nb) (hj : j < σ.no i) (ho : g.vo i = .slice (some ⟨go, 0, none⟩) (σ.no i) co) (hg1 : w.grownBy w1 none) (hown : w2.ownsRow X 35 1 v' ((σ.rs i j).length + 1) ((σ.rs i j).map (rv S) ++ [rv S r0])) (hg2 : w1.grownBy w2 (g.vl i j).ownBlock) (hloc : v'.ownBlock = (g.vl i j).ownBlock ∨ v'.ownBlock = some w1.heap.size) :
    w2.cell? ⟨go, j * 2 + 1, none⟩ = some (g.vl i j) ∧ w2.frozen? ⟨go, j * 2 + 1, none⟩ = false ∧ Hid (∃ own' g', IxM (w2.setCell ⟨go, j * 2 + 1, none⟩ v') X X S n own' st (σ.addL i j r0) g') ∧ Hid (Below X W0 (w2.setCell ⟨go, j * 2 + 1, none⟩ v')) := by
  have h2 := h.ho i hi
  rw [ho] at h2
  have r := RowAt.behind h2 (h.hl i j hi hj) (by simp) hg1 hg2
  exact ⟨by rw [r.1.cellAt _ (by omega), cells2_odd _ _ hj], r.1.frozenAt _, ⟨_, _, h.addL hi hj ho hg1 hown hg2 hloc⟩, (below_app hb h.sizeX hg1 (h.hl i j hi hj).1 hg2).setCell (own_ge h2.1) _⟩
theorem drew_alloc (w : World) (o : Obj) : w.drew.grownBy (w.alloc o).drew none := World.grownBy_alloc w.drew o none
theorem IxM.drewAlloc (h : IxM w X X S n own st σ g) (o : Obj) : IxM (w.alloc o).drew X X S n own st σ g := (h.drew).alloc o
theorem small_len {k : Nat} (h : k ≤ 65536) : k + 1 ≤ maxLen := by unfold maxLen; omega
theorem small_bytes {k : Nat} (h : k ≤ 65536) : (k + 1) * 16 ≤ 140737488355328 := by omega
theorem small_bytes48 {k : Nat} (h : k ≤ 65536) : (k + 1) * 48 ≤ 140737488355328 := by omega
theorem small_bytes24 {k : Nat} (h : k ≤ 65536) : (k + 1) * 24 ≤ 140737488355328 := by omega
theorem one_text (b : ByteArray) : ∀ u ∈ [Value.string b], u.oneCell' = true := by simp [Value.oneCell']
theorem two_nils : ∀ u ∈ [Value.slice none 0 0, Value.slice none 0 0], u.oneCell' = true := by simp [Value.oneCell']
theorem one_range (S : Nat) (r : Nat × Nat) : ∀ u ∈ [rv S r], u.oneCell' = true := by simp [rv, Value.oneCell']
end arms
/-- A row stands where its own blocks stand. -/
theorem own_other {w w' : World} {B e size n : Nat} {v : Value} {xs : List Value} (h : w.ownsRow B e size v n xs) (hk : ∀ k, B ≤ k → k < w.heap.size → w'.heap[k]? = w.heap[k]?) : w'.ownsRow B e size v n xs := by
  refine ⟨h.1, ?_⟩
  rcases h.2 with h0 | ⟨g, cap, cur, h1, h2, h3, h4⟩
  · exact .inl h0
  · exact .inr ⟨g, cap, cur, h1, h2, (hk g h2 (Array.getElem?_eq_some_iff.1 h3).1).trans h3, h4⟩
theorem IxM.other {w w' : World} {B X S n : Nat} {own : Nat → Tag} {st : Nat → Int} {σ : St} {g : Gh} (h : IxM w B X S n own st σ g) (hk : ∀ k, B ≤ k → k < w.heap.size → w'.heap[k]? = w.heap[k]?) : IxM w' B X S n own st σ g :=
  h.map fun t e size n v xs hr => ⟨own_other hr.1 hk, hr.2⟩
/-- Behind the bucket's step. -/
theorem step1_fits {m : Nat} {σ σ1 : St} {b : ByteArray} (hF : Fits m σ) (h : σ.step1 b σ1) : Fits (m + 1) σ1 ∧ 0 < σ1.nb := by
  obtain ⟨f1, f2, f3, f4⟩ := hF
  rcases h with ⟨hn, rfl⟩ | ⟨hn, rfl⟩
  · refine ⟨⟨?_, ?_, ?_, ?_⟩, ?_⟩
    · simp [St.addName, St.addBk, f1]
    · simp only [St.addName, St.addBk]; omega
    · intro i hi
      simp only [St.addName, St.addBk] at hi ⊢
      by_cases e : i = σ.nb
      · rw [e, upd_at]; omega
      · rw [upd_ne _ _ e]; have := f3 i (by omega); omega
    · intro i j hi hj
      simp only [St.addName, St.addBk] at hi hj ⊢
      by_cases e : i = σ.nb
      · rw [e, upd_at] at hj; omega
      · rw [upd_ne _ _ e] at hj
        have := f4 i j (by omega) hj
        omega
    · simp only [St.addName, St.addBk]; omega
  · refine ⟨⟨f1, by omega, fun i hi => (by have := f3 i hi; omega), fun i j hi hj => (by have := f4 i j hi hj; omega)⟩, ?_⟩
    apply Nat.pos_of_ne_zero
    intro e
    exact hn (.inl e)
/-- Behind the group's step. -/
theorem step2_fits {m : Nat} {σ σ2 : St} {p : ByteArray} (hF : Fits m σ) (h0 : 0 < σ.nb) (h : σ.step2 p σ2) :
    σ2.nb = σ.nb ∧ 0 < σ2.no (σ.nb - 1) ∧ σ2.no (σ.nb - 1) ≤ m + 1 ∧ (σ2.ps (σ.nb - 1) (σ2.no (σ.nb - 1) - 1)).length ≤ m ∧ (σ2.rs (σ.nb - 1) (σ2.no (σ.nb - 1) - 1)).length ≤ m := by
  obtain ⟨f1, f2, f3, f4⟩ := hF
  rcases h with ⟨hn, rfl⟩ | ⟨hn, rfl⟩
  · have := f3 (σ.nb - 1) (by omega)
    simp only [St.addOb, upd_at, Nat.add_sub_cancel, upd2_at, List.length_nil]
    exact ⟨by trivial, by omega, by omega, by omega, by omega⟩
  · have hp : 0 < σ2.no (σ2.nb - 1) := by
      apply Nat.pos_of_ne_zero
      intro e
      exact hn (.inl e)
    have a := f3 (σ2.nb - 1) (by omega)
    have b := f4 (σ2.nb - 1) (σ2.no (σ2.nb - 1) - 1) (by omega) (by omega)
    exact ⟨rfl, hp, by omega, b.2.1, by rw [b.2.2]; exact b.2.1⟩
theorem filed_one {σ σ1 : St} {f : Fil} {b p : ByteArray} {l s : Int} {r : Nat × Nat} (hs : same f ⟨b, l, p, s⟩) (h1 : σ.step1 b σ1) (hl : l = 1) : σ.filed f r (σ1.setIt (σ1.nb - 1) r) := by
  obtain ⟨b', l', p', s'⟩ := f
  obtain ⟨rfl, rfl, rfl⟩ := hs
  exact ⟨σ1, h1, .inl ⟨hl, rfl⟩⟩
theorem filed_two {σ σ1 σ2 : St} {f : Fil} {b p : ByteArray} {l s : Int} {r : Nat × Nat} (hs : same f ⟨b, l, p, s⟩) (h1 : σ.step1 b σ1) (hl : l ≠ 1) (h2 : σ1.step2 p σ2) : σ.filed f r ((σ2.addP (σ2.nb - 1) (σ2.no (σ2.nb - 1) - 1) p).addL (σ2.nb - 1) (σ2.no (σ2.nb - 1) - 1) r) := by
  obtain ⟨b', l', p', s'⟩ := f
  obtain ⟨rfl, rfl, rfl⟩ := hs
  exact ⟨σ1, h1, .inr ⟨hl, σ2, h2, rfl⟩⟩
end Go.Proofs.Qxb6600942a
