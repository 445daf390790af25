/-
  APPENDS ONTO THE BUFFER, EACH AS ONE STEP OF A REGION THAT DRAWS ITS ORDER.
-/
import Derived.Test.Qxb6602852aText0
namespace Go.Proofs.Qxb6602852a
open Go.RowKit
set_option linter.unusedVariables false

section
variable {ops : Array Oper} {o : Oper} {a : Act} {w W : World} {B Bb : Nat} {vb v : Value} {l : List UInt8} {K : Act → World → Prop} {Q : Exit → Act → World → Prop} {E : Prop}
theorem TX.base (h : TX w W B Bb vb v l) : B ≤ W.heap.size := h.le
theorem run_text (hX : TX w W B Bb vb v l) (p : ByteArray) (ty : TypeId) (hlen : l.length + p.size ≤ 140737488355328) :
    ∃ a' n' c' W', (Builtin.append_ #[27, 9] ty #[v, .string p]).run Try.prog W = .ok (.slice a' n' c') W' ∧ TX w W' B Bb vb (.slice a' n' c') (l ++ p.data.toList) ∧ W.grownBy W' v.ownBlock := by
  obtain ⟨i5, hi5, h50, h51, h52⟩ := info_parts Try.info5
  obtain ⟨v', W', hr, ho, hg, _⟩ := Lib.run_append_own_string (P := Try.prog) W B 27 9 ty 5 i5 Try.underlying27 Try.underlying9 hi5 h50 h51 h52 v l.length (bs l) hX.buf p (by unfold maxLen; omega) hlen hX.le
  have hb : Buf W' B v' (l ++ p.data.toList) := buf_text ho
  obtain ⟨a', c', rfl⟩ := hb.shape
  exact ⟨a', _, c', W', hr, hX.app hb hg, hg⟩
theorem run_byte (hX : TX w W B Bb vb v l) (ad : Addr) (c : UInt8) (ty : TypeId) (hc : W.cell? ad = some (.int .u8 c.toNat)) (hlen : l.length + 1 ≤ 140737488355328) :
    ∃ a' n' c' W', (Builtin.append_ #[27, 27] ty #[v, .slice (some ad) 1 1]).run Try.prog W = .ok (.slice a' n' c') W' ∧ TX w W' B Bb vb (.slice a' n' c') (l ++ [c]) ∧ W.grownBy W' v.ownBlock := by
  obtain ⟨i5, hi5, h50, h51, h52⟩ := info_parts Try.info5
  obtain ⟨v', W', hr, ho, hg, _⟩ := run_append_own_at (P := Try.prog) W B 27 ty 5 i5 (.int .u8 0) 1 1 Try.underlying27 hi5 h50 h51 h52 rfl Nat.one_pos v l.length (bs l) hX.buf ad 1 1 [.int .u8 c.toNat] rfl
    (fun j u hj => by
      match j, hj with
      | 0, hj => simp at hj; subst hj; simpa [Addr.add] using hc
      | (j + 1), hj => simp at hj) (one_byte _) (by unfold maxLen; omega) (by omega) hX.le
  have hb : Buf W' B v' (l ++ [c]) := by
    unfold Buf
    rw [bs_append, List.length_append]; exact ho
  obtain ⟨a', c', rfl⟩ := hb.shape
  exact ⟨a', _, c', W', hr, hX.app hb hg, hg⟩
theorem step_text (hgd : o.guard = none) (sl x : Operand) (ho : o.op = .call { callee := .builtin .append, args := #[sl, x], argTypes := #[27, 9] }) (hX : TX w W B Bb vb v l) (hs : a.eval sl = v) (p : ByteArray) (hx : a.eval x = .string p) (hlen : l.length + p.size ≤ 140737488355328)
    (h : ∀ a' n' c' W', TX w W' B Bb vb (.slice a' n' c') (l ++ p.data.toList) → W.grownBy W' v.ownBlock → K (a.put o.dst (.slice a' n' c')) W') : if Region.wanted o (yielded ops a.tmps) = true then Oper.wp Try.prog o a W K Q else E := by
  have hw : Region.wanted o (yielded ops a.tmps) = true := by simp [Region.wanted, hgd]
  rw [if_pos hw]
  obtain ⟨a', n', c', W', hr, h1, h2⟩ := run_text hX p o.type hlen
  unfold Oper.wp execOp
  simp only [ho, resolve, invoke, builtin, Sem.run_bind, Sem.run_pure, Result.andThen_ok, List.map_toArray, List.map_cons, List.map_nil, hs, hx, hr]
  exact h _ _ _ _ h1 h2
theorem step_byte (hgd : o.guard = none) (sl x : Operand) (ho : o.op = .call { callee := .builtin .append, args := #[sl, x], argTypes := #[27, 27] }) (hX : TX w W B Bb vb v l) (hs : a.eval sl = v) (ad : Addr) (c : UInt8) (ci : Int) (hci : ci = (c.toNat : Int)) (hx : a.eval x = .slice (some ad) 1 1) (hc : W.cell? ad = some (.int .u8 ci)) (hlen : l.length + 1 ≤ 140737488355328)
    (h : ∀ a' n' c' W', TX w W' B Bb vb (.slice a' n' c') (l ++ [c]) → W.grownBy W' v.ownBlock → K (a.put o.dst (.slice a' n' c')) W') : if Region.wanted o (yielded ops a.tmps) = true then Oper.wp Try.prog o a W K Q else E := by
  have hw : Region.wanted o (yielded ops a.tmps) = true := by simp [Region.wanted, hgd]
  rw [if_pos hw]
  obtain ⟨a', n', c', W', hr, h1, h2⟩ := run_byte hX ad c o.type (by rw [← hci]; exact hc) hlen
  unfold Oper.wp execOp
  simp only [ho, resolve, invoke, builtin, Sem.run_bind, Sem.run_pure, Result.andThen_ok, List.map_toArray, List.map_cons, List.map_nil, hs, hx, hr]
  exact h _ _ _ _ h1 h2
/-- A new block lies as it lay behind an append. -/
theorem new_kept {W2 : World} {ci : Int} (hX : TX w W B Bb vb v l) (hg : (W.alloc (.cells #[.int .u8 ci] 5)).grownBy W2 v.ownBlock) : W2.cell? ⟨W.heap.size, 0, none⟩ = some (.int .u8 ci) := by
  have h1 : (W.alloc (.cells #[.int .u8 ci] 5)).heap[W.heap.size]? = some (.cells #[.int .u8 ci] 5) := heap_alloc_new _ _
  have hne : some W.heap.size ≠ v.ownBlock := by
    intro e
    rcases hX.buf.2 with ⟨rfl, _⟩ | ⟨g, cap, cur, rfl, _, hh, _⟩
    · simp [Value.ownBlock] at e
    · simp [Value.ownBlock] at e
      have := (Array.getElem?_eq_some_iff.1 hh).1
      omega
  have h2 := (hg.block W.heap.size (by simp) hne).trans h1
  simp [World.cell?, h2]
theorem new_cell (W : World) (ci : Int) : (W.alloc (.cells #[.int .u8 ci] 5)).cell? ⟨W.heap.size, 0, none⟩ = some (.int .u8 ci) := by rw [World.cell?_alloc_new]; rfl
/-- The row of pointers behind an append to the buffer. -/
theorem ptrs_kept {W2 : World} {j : Nat} {vp : Value} {xs : List Value} (hX : TX w W B Bb vb v l) (hO : W.ownsRow B 25 1 vp j xs) (hg : W.grownBy W2 v.ownBlock) : W2.ownsRow B 25 1 vp j xs := by
  refine hO.kept hg ?_
  rcases hO.2 with ⟨rfl, _⟩ | ⟨g, cap, cur, rfl, _, hh, _⟩
  · exact .inl rfl
  · exact .inr fun e => buf_apart hX.buf hh (by decide) e.symm
theorem ptrs_store {j : Nat} {u vp : Value} {xs : List Value} (hX : TX w W B Bb vb v l) (hO : W.ownsRow B 25 1 vp j xs) : (W.setCell ⟨Bb, 0, none⟩ u).ownsRow B 25 1 vp j xs := by
  refine ⟨hO.1, ?_⟩
  rcases hO.2 with h0 | ⟨g, cap, cur, rfl, h2, hh, h3⟩
  · exact .inl h0
  · refine .inr ⟨g, cap, cur, rfl, h2, (Below.heap_setCell _ _ _ _ ?_).trans hh, h3⟩
    rintro rfl
    have := hX.box
    rw [hh] at this
    cases this
/-- A block of cells abides a turn of what is no cells. -/
theorem block_turn {W2 : World} {row : Option Nat} {b : Nat} {cs : Array Value} {t : TypeId} {fr : Nat × Nat} (hb : W.heap[b]? = some (.cells cs t fr)) (hg : W.grownBy W2 row) (hr : ∀ r, row = some r → ∃ o : Obj, W.heap[r]? = some o ∧ o.isCells = false) : W2.heap[b]? = some (.cells cs t fr) := by
  refine (hg.block b (Array.getElem?_eq_some_iff.1 hb).1 ?_).trans hb
  intro e
  obtain ⟨o, h1, h2⟩ := hr b e.symm
  rw [hb] at h1
  cases h1
  cases h2
theorem TX.turn {W2 : World} {row : Option Nat} (h : TX w W B Bb vb v l) (hg : W.grownBy W2 row) (hr : ∀ r, row = some r → B ≤ r ∧ ∃ o : Obj, W.heap[r]? = some o ∧ o.isCells = false) : TX w W2 B Bb vb v l := by
  refine ⟨h.bel.grown hg h.le (fun k hk => (hr k hk).1), block_turn h.box hg (fun r e => (hr r e).2), ⟨h.buf.1, ?_⟩, h.hB⟩
  rcases h.buf.2 with h0 | ⟨g, cap, cur, rfl, h2, hh, h3⟩
  · exact .inl h0
  · exact .inr ⟨g, cap, cur, rfl, h2, block_turn hh hg (fun r e => (hr r e).2), h3⟩
/-- One byte shorter. -/
theorem TX.cut {g n c : Nat} {x : UInt8} (h : TX w W B Bb vb (.slice (some ⟨g, 0, none⟩) n c) (l ++ [x])) : TX w W B Bb vb (.slice (some ⟨g, 0, none⟩) l.length c) l := ⟨h.bel, h.box, h.buf.cut, h.hB⟩
/-- Blocks that lie as they lay in WS. -/
def Sok (WS : World) (Bb : Nat) (S : Nat → Prop) : Prop := ∀ b, S b → b ≠ Bb ∧ ∃ cs t fr, WS.heap[b]? = some (.cells cs t fr) ∧ t ≠ 5
def Kept (WS W : World) (S : Nat → Prop) : Prop := ∀ b, S b → W.heap[b]? = WS.heap[b]?
section
variable {WS W2 : World} {S : Nat → Prop}
theorem Kept.alloc (hS : Sok WS Bb S) (h : Kept WS W S) (o : Obj) : Kept WS (W.alloc o) S := fun b hb => by
  obtain ⟨_, cs, t, fr, h1, _⟩ := hS b hb
  exact (Below.heap_alloc _ _ _ (Array.getElem?_eq_some_iff.1 ((h b hb).trans h1)).1).trans (h b hb)
theorem Kept.app (hS : Sok WS Bb S) (h : Kept WS W S) (hX : TX w W B Bb vb v l) (hg : W.grownBy W2 v.ownBlock) : Kept WS W2 S := fun b hb => by
  obtain ⟨_, cs, t, fr, h1, h2⟩ := hS b hb
  exact (hX.other hg ((h b hb).trans h1) h2).trans h1.symm
theorem Kept.store (hS : Sok WS Bb S) (h : Kept WS W S) (u : Value) : Kept WS (W.setCell ⟨Bb, 0, none⟩ u) S := fun b hb => (Below.heap_setCell _ _ _ _ (by simpa using (hS b hb).1)).trans (h b hb)
theorem Kept.turn {row : Option Nat} (hS : Sok WS Bb S) (h : Kept WS W S) (hg : W.grownBy W2 row) (hr : ∀ r, row = some r → ∃ o : Obj, W.heap[r]? = some o ∧ o.isCells = false) : Kept WS W2 S := fun b hb => by
  obtain ⟨_, cs, t, fr, h1, _⟩ := hS b hb
  exact (block_turn ((h b hb).trans h1) hg hr).trans h1.symm
theorem TX.others (hX : TX w W B Bb vb v l) (hg : W.grownBy W2 v.ownBlock) : KeepsOthers W W2 := KeepsOthers.of_grownBy hg fun j o hj ho => by
  rcases hX.buf.2 with ⟨rfl, _⟩ | ⟨g, cap, cur, rfl, _, hh, _⟩
  · simp [Value.ownBlock] at hj
  · simp [Value.ownBlock] at hj
    subst hj
    rw [hh] at ho
    cases ho; rfl
end
theorem fin21 {WS W1 W5 W6 : World} {Bst Bs : Nat} {a3 : Option Addr} {v1 v5 v6 : Value} {L1 L5 L6 : List UInt8} {ob : Obj} (hS : Sok WS Bb (fun b => b = Bst ∨ b = Bs ∨ a3 = some ⟨b, 0, none⟩)) (HX1 : TX w W1 B Bb v1 v1 L1) (HK1 : Kept WS W1 (fun b => b = Bst ∨ b = Bs ∨ a3 = some ⟨b, 0, none⟩)) (HKO : KeepsOthers W W1) (HKW : Kept WS W (fun b => b = Bst ∨ b = Bs ∨ a3 = some ⟨b, 0, none⟩))
    (hg5 : (W1.drew.alloc ob).grownBy W5 v1.ownBlock) (HX5 : TX w W5 B Bb v1 v5 L5) (hg6 : W5.grownBy W6 v5.ownBlock) (HX6 : TX w W6 B Bb v1 v6 L6) :
    KeepsOthers W (W6.setCell ⟨Bb, 0, none⟩ v6) ∧ KB Bs a3 W (W6.setCell ⟨Bb, 0, none⟩ v6) ∧ TX w (W6.setCell ⟨Bb, 0, none⟩ v6) B Bb v6 v6 L6 ∧ Kept WS (W6.setCell ⟨Bb, 0, none⟩ v6) (fun b => b = Bst ∨ b = Bs ∨ a3 = some ⟨b, 0, none⟩) := by
  have k2 : Kept WS (W1.drew.alloc ob) (fun b => b = Bst ∨ b = Bs ∨ a3 = some ⟨b, 0, none⟩) := Kept.alloc hS (show Kept WS W1.drew _ from HK1) ob
  have k5 := Kept.app hS k2 (HX1.drew.alloc ob) hg5
  have k6 := Kept.app hS k5 HX5 hg6
  have k7 := Kept.store hS k6 v6
  refine ⟨?_, ⟨(k7 Bs (.inr (.inl rfl))).trans (HKW Bs (.inr (.inl rfl))).symm, fun g hg => (k7 g (.inr (.inr hg))).trans (HKW g (.inr (.inr hg))).symm⟩, HX6.store, k7⟩
  exact ((((HKO.trans (KeepsOthers.drew W1)).trans (KeepsOthers.alloc _ ob)).trans ((HX1.drew.alloc ob).others hg5)).trans (HX5.others hg6)).trans (KeepsOthers.setCell _ _ _)
section fence
variable {F : Fence} {n : Nat} {rest : List Oper}
theorem listIn_text (hgd : o.guard = none) (sl x : Operand) (ho : o.op = .call { callee := .builtin .append, args := #[sl, x], argTypes := #[27, 9] }) (hX : TX w W B Bb vb v l) (hs : a.eval sl = v) (p : ByteArray) (hx : a.eval x = .string p) (hlen : l.length + p.size ≤ 140737488355328)
    (h : ∀ a' n' c' W', TX w W' B Bb vb (.slice a' n' c') (l ++ p.data.toList) → W.grownBy W' v.ownBlock → wpListIn F n Try.prog ops Q rest (a.put o.dst (.slice a' n' c')) W') : wpListIn F n Try.prog ops Q (o :: rest) a W := by
  refine wpListIn_plain hgd fun K hK => ?_
  obtain ⟨a', n', c', W', hr, h1, h2⟩ := run_text hX p o.type hlen
  unfold Oper.wpIn
  refine ⟨?_, ?_⟩
  · simp [Oper.about, ho, resolve, Target.leads, Sem.run_pure]
  · rw [Oper.semAt_plain F _ _ (by rw [ho]; intro c hc'; cases hc')]
    simp [execOp, ho, resolve, invoke, builtin, hs, hx, hr, Result.andThen]
    exact hK _ _ (h _ _ _ _ h1 h2)
theorem listIn_byte (hgd : o.guard = none) (sl x : Operand) (ho : o.op = .call { callee := .builtin .append, args := #[sl, x], argTypes := #[27, 27] }) (hX : TX w W B Bb vb v l) (hs : a.eval sl = v) (ad : Addr) (c : UInt8) (ci : Int) (hci : ci = (c.toNat : Int)) (hx : a.eval x = .slice (some ad) 1 1) (hc : W.cell? ad = some (.int .u8 ci)) (hlen : l.length + 1 ≤ 140737488355328)
    (h : ∀ a' n' c' W', TX w W' B Bb vb (.slice a' n' c') (l ++ [c]) → W.grownBy W' v.ownBlock → wpListIn F n Try.prog ops Q rest (a.put o.dst (.slice a' n' c')) W') : wpListIn F n Try.prog ops Q (o :: rest) a W := by
  refine wpListIn_plain hgd fun K hK => ?_
  obtain ⟨a', n', c', W', hr, h1, h2⟩ := run_byte hX ad c o.type (by rw [← hci]; exact hc) hlen
  unfold Oper.wpIn
  refine ⟨?_, ?_⟩
  · simp [Oper.about, ho, resolve, Target.leads, Sem.run_pure]
  · rw [Oper.semAt_plain F _ _ (by rw [ho]; intro c hc'; cases hc')]
    simp [execOp, ho, resolve, invoke, builtin, hs, hx, hr, Result.andThen]
    exact hK _ _ (h _ _ _ _ h1 h2)
end fence
end
end Go.Proofs.Qxb6602852a
