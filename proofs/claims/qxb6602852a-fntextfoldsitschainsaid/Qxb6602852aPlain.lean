/-
  A CHAIN OF PATHS, PLAINLY; A BUFFER OF BYTES.
-/
import Derived.Test.Qxb6602852aNames
import Derived.Lib.AppendStr
import Derived.Maps.AppendAt
namespace Go.Proofs.Qxb6602852a
open Go.RowKit
set_option linter.unusedVariables false

theorem Try.info5 : (Try.prog.info? 5).map (fun i => (i.zero, i.size, i.bytes)) = some (some (.int .u8 0), 1, 1) := by kernel_rfl

/-- One trailing slash taken away. -/
def strip (l : List UInt8) : List UInt8 := if l.getLast? = some 47 then l.dropLast else l
/-- The path of the first, which lies under the second, and so on. -/
def chain : List ByteArray → List UInt8
  | [] => []
  | [p] => p.data.toList
  | p :: q :: r => strip (chain (q :: r)) ++ [47] ++ p.data.toList
theorem strip_nil : strip [] = [] := rfl
theorem strip_snoc_slash (l : List UInt8) : strip (l ++ [47]) = l := by simp [strip]
theorem strip_snoc_other (l : List UInt8) {c : UInt8} (h : c ≠ 47) : strip (l ++ [c]) = l ++ [c] := by simp [strip, h]
theorem strip_length (l : List UInt8) : (strip l).length ≤ l.length := by
  unfold strip; split <;> simp
theorem chain_length : ∀ ss : List ByteArray, (chain ss).length ≤ slen ss + ss.length
  | [] => by simp [chain]
  | [p] => by simp [chain, slen]
  | p :: q :: r => by
    have ih := chain_length (q :: r)
    have h2 := strip_length (chain (q :: r))
    have e : (chain (p :: q :: r)).length = (strip (chain (q :: r))).length + 1 + p.size := by simp [chain]; omega
    rw [e]
    simp only [slen, List.length_cons] at ih ⊢
    omega
/-- The bytes as cells. -/
def bs (l : List UInt8) : List Value := l.map fun b => Value.int .u8 b.toNat
theorem bs_append (a b : List UInt8) : bs (a ++ b) = bs a ++ bs b := by simp [bs]
theorem bs_length (l : List UInt8) : (bs l).length = l.length := by simp [bs]
theorem bs_str (s : ByteArray) : Lib.strCells s = bs s.data.toList := rfl
theorem str_len (s : ByteArray) : s.data.toList.length = s.size := by simp
/-- A buffer that the call owns. -/
def Buf (w : World) (B : Nat) (v : Value) (l : List UInt8) : Prop := w.ownsRow B 5 1 v l.length (bs l)
theorem Buf.nil (w : World) (B : Nat) : Buf w B (.slice none 0 0) [] := ⟨by simp [bs], .inl ⟨rfl, rfl⟩⟩
theorem Buf.shape {w : World} {B : Nat} {v : Value} {l : List UInt8} (h : Buf w B v l) : ∃ a c, v = .slice a l.length c := by
  rcases h.2 with ⟨rfl, h0⟩ | ⟨g, cap, cur, rfl, _⟩
  · exact ⟨none, 0, by rw [h0]⟩
  · exact ⟨_, cap, rfl⟩
theorem Buf.there {w : World} {B : Nat} {v : Value} {l : List UInt8} (h : Buf w B v l) (h0 : 0 < l.length) : ∃ g c, v = .slice (some ⟨g, 0, none⟩) l.length c ∧ B ≤ g ∧ g < w.heap.size ∧ l.length ≤ c := by
  rcases h.2 with ⟨_, h1⟩ | ⟨g, cap, cur, rfl, hb, hh, hc, _⟩
  · omega
  · exact ⟨g, cap, rfl, hb, (Array.getElem?_eq_some_iff.1 hh).1, hc⟩
theorem Buf.cell {w : World} {B g c : Nat} {l : List UInt8} (h : Buf w B (.slice (some ⟨g, 0, none⟩) l.length c) l) {j : Nat} (hj : j < l.length) : w.cell? ⟨g, j, none⟩ = some (.int .u8 (l[j].toNat : Int)) := by
  rw [World.ownsRow.cellAt h j (by omega)]; simp [bs, hj]
/-- One byte shorter. -/
theorem Buf.cut {w : World} {B g n c : Nat} {l : List UInt8} {x : UInt8} (h : Buf w B (.slice (some ⟨g, 0, none⟩) n c) (l ++ [x])) : Buf w B (.slice (some ⟨g, 0, none⟩) l.length c) l := by
  refine ⟨by simp [bs], ?_⟩
  rcases h.2 with ⟨h0, _⟩ | ⟨g', cap, cur, hv, hb, hh, hc, hm, hs, ht⟩
  · cases h0
  · cases hv
    refine .inr ⟨g, c, cur, rfl, hb, hh, ?_, hm, hs, ?_⟩
    · simp at hc; omega
    · have h2 : cur.toList.take ((l.length + 1) * 1) = bs l ++ bs [x] := by rw [← bs_append]; simpa using ht
      have h3 := congrArg (List.take l.length) h2
      rw [List.take_take] at h3
      simp [bs] at h3 ⊢
      exact h3
theorem Buf.kept {w w' : World} {B : Nat} {v : Value} {l : List UInt8} {row : Option Nat} (h : Buf w B v l) (hg : w.grownBy w' row) (hne : v.ownBlock = none ∨ v.ownBlock ≠ row) : Buf w' B v l := World.ownsRow.kept h hg hne
theorem Buf.alloc {w : World} {B : Nat} {v : Value} {l : List UInt8} (h : Buf w B v l) (o : Obj) : Buf (w.alloc o) B v l := World.ownsRow.alloc h o
theorem Buf.mono {w : World} {B B' : Nat} {v : Value} {l : List UInt8} (h : Buf w B v l) (hB : B' ≤ B) : Buf w B' v l := by
  refine ⟨h.1, ?_⟩
  rcases h.2 with h0 | ⟨g, cap, cur, hv, hb, hh⟩
  · exact .inl h0
  · exact .inr ⟨g, cap, cur, hv, Nat.le_trans hB hb, hh⟩
theorem Buf.ge {w : World} {B : Nat} {v : Value} {l : List UInt8} (h : Buf w B v l) : ∀ k, v.ownBlock = some k → B ≤ k := by
  intro k hk
  rcases h.2 with ⟨rfl, _⟩ | ⟨g, cap, cur, rfl, hb, _⟩
  · simp [Value.ownBlock] at hk
  · simp [Value.ownBlock] at hk; omega
end Go.Proofs.Qxb6602852a
