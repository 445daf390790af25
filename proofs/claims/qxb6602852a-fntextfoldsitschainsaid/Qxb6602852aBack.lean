/-
  SLICES.BACKWARD OVER A SLICE OF NODES: its contract, turned from the kit's own worked text on slices.Values.
-/
import Derived.RangeFuncBox
import Derived.RangeFuncFrom
import Derived.RangeFuncNested
import Derived.RangeFuncBound
import Derived.RangeFuncCalls
import Derived.RangeFuncLeaves
import Derived.Shelf.Abstract
import Derived.Shelf.RegionOpen
import Derived.WalkKit
import Derived.OwnWalkIn
import Derived.TacticsInMore
import Derived.LoopNIn
import Derived.LoopIn
import Derived.Test.Qxb6602852aPlain
namespace Go.Proofs.Qxb6602852a
open Go.RowKit Go.Shelf
set_option linter.unusedVariables false
attribute [local go_sem] Oper.semAt_some

/-- What has come when j rounds are over: f 0, .., f (j - 1). -/
def upto {α : Type} (f : Nat → α) (j : Nat) : List α := (List.range j).map f
theorem upto_succ {α : Type} (f : Nat → α) (j : Nat) : upto f (j + 1) = upto f j ++ [f j] := by simp [upto, List.range_succ]
theorem upto_length {α : Type} (f : Nat → α) (j : Nat) : (upto f j).length = j := by simp [upto]
/-- From the last to the first. -/
def dn (k j : Nat) : List Nat := upto (fun t => k - 1 - t) j

/-- What the iterator reads between two rounds lies as it lay: the box Bs, and the row of a3. -/
def KB (Bs : Nat) (a3 : Option Addr) (W W' : World) : Prop := W'.heap[Bs]? = W.heap[Bs]? ∧ ∀ g, a3 = some ⟨g, 0, none⟩ → W'.heap[g]? = W.heap[g]?
theorem KB.refl (Bs : Nat) (a3 : Option Addr) (W : World) : KB Bs a3 W W := ⟨rfl, fun _ _ => rfl⟩
theorem KB.trans {Bs : Nat} {a3 : Option Addr} {A B C : World} (h : KB Bs a3 A B) (k : KB Bs a3 B C) : KB Bs a3 A C := ⟨k.1.trans h.1, fun g hg => (k.2 g hg).trans (h.2 g hg)⟩

set_option maxRecDepth 100000 in
set_option maxHeartbeats 2000000 in
theorem back1_in (F : Fence) (n : Nat) (h7 : F.fn 27) (hro : F.round = none) (hn : 1 ≤ n) (l Bs g k cap : Nat) (blk : Nat → Nat) (hk : k ≤ 65536) (J Jx : List Nat → World → Prop)
    (hY : ∀ pre x W, J pre W → pre.length < k → YieldAt F (n - 1) Try.prog l #[.int .i64 ((x : Nat) : Int), .pointer (some ⟨blk x, 0, none⟩)] W fun e W' =>
      (e = .returned (.bool true) ∧ J (pre ++ [x]) W' ∧ KB Bs (some ⟨g, 0, none⟩) W W') ∨ (e = .returned (.bool false) ∧ Jx (pre ++ [x]) W'))
    (W : World) (hBs : W.cell? ⟨Bs, 0, none⟩ = some (.slice (some ⟨g, 0, none⟩) k cap)) (hc : ∀ j, j < k → W.cell? ⟨g, j, none⟩ = some (.pointer (some ⟨blk j, 0, none⟩))) (h0 : J [] W) :
    CallsIn F n Try.prog 27 #[.func (.yield l) #[] #[], .pointer (some ⟨Bs, 0, none⟩)] W fun e W' => (∃ v, e = .returned v) ∧
      ((∃ ys, ys = dn k k ∧ J ys W') ∨ (∃ pre, (∃ j, j ≤ k ∧ pre = dn k j) ∧ Jx pre W')) := by
  refine callsIn_of_wp Try.func27 rfl h7 ?_ hro
  simp only [Try.ntmps27, List.size_toArray, List.length_cons, List.length_nil, Nat.reduceAdd, Nat.reduceSub, Array.replicate_succ, Array.replicate_zero, List.push_toArray, List.append_toArray, List.nil_append, List.cons_append]
  gi_wp2
  gi_loopw [3] (fun i wr => ∃ (j : Nat) (q : Int), j ≤ k ∧ q = (k : Int) - 1 - (j : Int) ∧ i = .int .i64 q ∧ J (dn k j) wr ∧ KB Bs (some ⟨g, 0, none⟩) W wr)
    (fun i _ => (intOf i + 1).toNat)
  case atStart => exact ⟨0, _, Nat.zero_le _, by omega, rfl, h0, KB.refl _ _ _⟩
  case round =>
    obtain ⟨j, q, hj, hq, rfl, hJs, hnx⟩ := hrel
    by_cases hlt : j < k
    · obtain ⟨t, ht⟩ : ∃ t : Nat, t = k - 1 - j := ⟨_, rfl⟩
      obtain rfl : q = (t : Int) := by omega
      have htk : t < k := by omega
      have itk : (t : Int) < k := by omega
      have hcx : wr.cell? ⟨g, t, none⟩ = some (.pointer (some ⟨blk t, 0, none⟩)) := (World.cell?_of_block (a := ⟨g, t, none⟩) (hnx.2 g rfl)).trans (hc t htk)
      have hbx : wr.cell? ⟨Bs, 0, none⟩ = some (.slice (some ⟨g, 0, none⟩) k cap) := (World.cell?_of_block (a := ⟨Bs, 0, none⟩) hnx.1).trans hBs
      obtain ⟨fn, tmps, assign, body, hy, hR⟩ := hY _ t wr hJs (by rw [dn, upto_length]; exact hlt)
      have hd : dn k (j + 1) = dn k j ++ [t] := by rw [dn, upto_succ, ht]; rfl
      have HT : Hid (t = k - 1 - j) := ht
      clear ht hq
      gi_wp2
      refine hR.mono ?_
      rintro e W3 (⟨rfl, hJ3, hk3⟩ | ⟨rfl, hJx3⟩)
      · gi_wp2
        go_roundw
        case rel => exact ⟨j + 1, (t : Int) - 1, by omega, by have := HT.out; omega, by go_num, by rw [hd]; exact hJ3, hnx.trans hk3⟩
        case measure => simp [intOf]
      · gi_wp2
        refine bodyPost_ret (results_none rfl _ _ _) rfl ?_
        exact ⟨⟨_, rfl⟩, .inr ⟨_, ⟨j + 1, by omega, hd.symm⟩, hJx3⟩⟩
    · obtain rfl : j = k := by omega
      obtain rfl : q = -1 := by omega
      gi_wp2
      go_end0
      exact ⟨⟨_, rfl⟩, .inl ⟨_, rfl, hJs⟩⟩

set_option maxRecDepth 100000 in
set_option maxHeartbeats 1000000 in
theorem back1_nil_in (F : Fence) (n : Nat) (h7 : F.fn 27) (hro : F.round = none) (l Bs : Nat) (J : List Nat → World → Prop) (W : World) (hBs : W.cell? ⟨Bs, 0, none⟩ = some (.slice none 0 0)) (h0 : J [] W) :
    CallsIn F n Try.prog 27 #[.func (.yield l) #[] #[], .pointer (some ⟨Bs, 0, none⟩)] W fun e W' => (∃ v, e = .returned v) ∧ J [] W' := by
  refine callsIn_of_wp Try.func27 rfl h7 ?_ hro
  simp only [Try.ntmps27, List.size_toArray, List.length_cons, List.length_nil, Nat.reduceAdd, Nat.reduceSub, Array.replicate_succ, Array.replicate_zero, List.push_toArray, List.append_toArray, List.nil_append, List.cons_append]
  gi_wp2
  gi_loopw [3] (fun i wr => i = .int .i64 (-1) ∧ J [] wr) (fun _ _ => 0)
  case atStart => exact ⟨rfl, h0⟩
  case round =>
    obtain ⟨rfl, hJs⟩ := hrel
    gi_wp2
    go_end0
    exact ⟨⟨_, rfl⟩, hJs⟩

set_option maxHeartbeats 1000000 in
/-- slices.Backward(s): the slice value is boxed; the function value captures the box. -/
theorem back_in (F : Fence) (n : Nat) (h5 : F.fn 22) (hro : F.round = none) (a : Option Addr) (len cap : Nat) (w : World) :
    CallsIn F n Try.prog 22 #[.slice a len cap] w fun e w' => e = .returned (.func (.func 27) #[] #[.pointer (some ⟨w.heap.size, 0, none⟩)]) ∧ w' = w.alloc (.cells #[.slice a len cap] 42) := by
  refine callsIn_of_wp Try.func22 rfl h5 ?_ hro
  simp only [Try.ntmps22, List.size_toArray, List.length_cons, List.length_nil, Nat.reduceAdd, Nat.reduceSub, Array.replicate_succ, Array.replicate_zero, List.push_toArray, List.append_toArray, List.nil_append, List.cons_append]
  gi_wp2
  go_ret
  exact ⟨rfl, rfl⟩

/-- The slice of a3 holds the pointers to blk 0, .., blk (k - 1); or it is nil and there are none. -/
def Ptrs (W : World) (a3 : Option Addr) (k : Nat) (blk : Nat → Nat) : Prop :=
  (a3 = none ∧ k = 0) ∨ ∃ g, a3 = some ⟨g, 0, none⟩ ∧ g < W.heap.size ∧ ∀ j, j < k → W.cell? ⟨g, j, none⟩ = some (.pointer (some ⟨blk j, 0, none⟩))
theorem Ptrs.below {A B : World} (h : Below A.heap.size A B) {a3 : Option Addr} {k : Nat} {blk : Nat → Nat} : Ptrs A a3 k blk → Ptrs B a3 k blk
  | .inl e => .inl e
  | .inr ⟨g, e, hb, hc⟩ => .inr ⟨g, e, Nat.lt_of_lt_of_le hb h.size, fun j hj => (h.cell (p := ⟨g, j, none⟩) hb).trans (hc j hj)⟩

/-- All, from the last to the first; or a part. -/
theorem back_stops (F : Fence) (n : Nat) (h7 : F.fn 27) (hro : F.round = none) (hn : 1 ≤ n) (Bs : Nat) (a3 : Option Addr) (k c3 : Nat) (blk : Nat → Nat) (hk : k ≤ 65536) (w : World) (hBs : Bs < w.heap.size)
    (hc : w.cell? ⟨Bs, 0, none⟩ = some (.slice a3 k c3)) (h0c : a3 = none → c3 = 0) (hI : Ptrs w a3 k blk) :
    SeqStopsK F n Try.prog 27 #[.pointer (some ⟨Bs, 0, none⟩)] (fun x : Nat => #[Value.int .i64 (x : Int), .pointer (some ⟨blk x, 0, none⟩)]) (KB Bs a3) (fun ys => ys = dn k k) (fun pre => True) k w := fun l J Jx W hW _ _ hY h0 => by
  have hc' := (hW.cell (p := ⟨Bs, 0, none⟩) hBs).trans hc
  rcases hI.below hW with ⟨rfl, rfl⟩ | ⟨g, rfl, hb, hcs⟩
  · obtain rfl := h0c rfl
    exact (back1_nil_in F n h7 hro l Bs J W hc' h0).mono fun e W' ⟨he, hj⟩ => ⟨he, .inl ⟨_, rfl, hj⟩⟩
  · refine (back1_in F n h7 hro hn l Bs g k c3 blk hk J Jx hY W hc' hcs h0).mono ?_
    rintro e W' ⟨he, ⟨ys, rfl, hj⟩ | ⟨pre, _, hj⟩⟩
    · exact ⟨he, .inl ⟨_, rfl, hj⟩⟩
    · exact ⟨he, .inr ⟨_, trivial, hj⟩⟩
end Go.Proofs.Qxb6602852a
