/-
  WHAT 'zzc := make([]byte, len(data)); copy(zzc, data)' LEAVES: shared by two laws.
-/
import Derived.Test.Qxb6600845aRows
import Derived.WalkKit
import Derived.WalkSpells
import Derived.WalkLawsBesides
import Derived.Laws.CopyOwn
namespace Go.Proofs.Qxb6600845a
open Go.RowKit

theorem Try.info5 : (Try.prog.info? 5).map (fun i => (i.zero, i.size, i.bytes)) = some (some (.int .u8 0), 1, 1) := by kernel_rfl
theorem Try.size5 : (Try.prog.info? 5).map (·.size) = some 1 := by kernel_rfl

/-- The cells of a row of bytes. -/
def bytes (zs : List Int) : List Value := zs.map (Value.int .u8)
theorem bytes_length (zs : List Int) : (bytes zs).length = zs.length := by simp [bytes]
theorem bytes_one (zs : List Int) : ∀ v ∈ bytes zs, v.oneCell' = true := by
  intro v hv
  simp [bytes] at hv
  obtain ⟨n, _, rfl⟩ := hv
  rfl
theorem bytes_get (zs : List Int) (j : Nat) (v : Value) (h : (bytes zs)[j]? = some v) : j < zs.length ∧ v = .int .u8 (zs.getD j 0) := by
  simp [bytes, List.getElem?_map] at h
  obtain ⟨a, ha, rfl⟩ := h
  have hj : j < zs.length := (List.getElem?_eq_some_iff.1 ha).1
  refine ⟨hj, ?_⟩
  simp [List.getD, ha]

/-- make([]byte, n). -/
theorem make_bytes (n : Nat) (hn : n ≤ 4194304) (w : World) :
    (Instr.makeSlice 22 (.int .i64 (n : Int)) (.int .i64 (n : Int))).run Try.prog w = .ok (.slice (some ⟨w.heap.size, 0, none⟩) n n) (w.alloc (.cells (madeCells #[.int .u8 0] n) 5)) := by
  obtain ⟨i0, hi, hz0, hz1, hz2⟩ := info_parts Try.info5
  have h := run_make (P := Try.prog) w 22 5 i0 (.int .u8 0) Try.underlying22 hi hz0 .i64 .i64 n n (by omega) (Int.le_refl _) (by rw [hz2]; omega) (by omega)
  have e : (Value.int .u8 0).cells = #[Value.int .u8 0] := rfl
  rw [hz1, e] at h
  simpa using h

/-- A row of bytes, all known. -/
def RowAt (w : World) (g : Nat) (zs : List Int) : Prop := w.heap[g]? = some (.cells (bytes zs).toArray 5 (0, 0))
theorem RowAt.cell {w : World} {g : Nat} {zs : List Int} (h : RowAt w g zs) (j : Nat) (hj : j < zs.length) : w.cell? ⟨g, j, none⟩ = some (.int .u8 (zs.getD j 0)) := by
  unfold RowAt at h
  simp [World.cell?, h, bytes, hj]
theorem RowAt.lt {w : World} {g : Nat} {zs : List Int} (h : RowAt w g zs) : g < w.heap.size := (Array.getElem?_eq_some_iff.1 h).1
/-- 'copy(zzc, data)' behind 'zzc := make([]byte, len(data))': the row is a copy; nothing old has turned. -/
theorem copied (x : Addr) (n cap : Nat) (zs : List Int) (w : World) (hz : zs.length = n) (hc : ∀ j, j < zs.length → w.cell? (x.add j) = some (.int .u8 (zs.getD j 0))) :
    ∃ W2, (Builtin.copy_ #[22, 22] 3 #[.slice (some ⟨w.heap.size, 0, none⟩) n n, .slice (some x) n cap]).run Try.prog (w.alloc (.cells (madeCells #[.int .u8 0] n) 5)) = .ok (.int .i64 (n : Int)) W2 ∧
      RowAt W2 w.heap.size zs ∧ Below w.heap.size w W2 := by
  have hg : (w.alloc (.cells (madeCells #[.int .u8 0] n) 5)).heap[w.heap.size]? = some (.cells (madeCells #[.int .u8 0] n) 5 (0, 0)) := heap_alloc_new _ _
  have hrun := run_copy_row Try.prog (w.alloc (.cells (madeCells #[.int .u8 0] n) 5)) 22 22 3 5 w.heap.size 0 n n x n cap _ 5 (bytes zs) Try.underlying22 Try.size5 hg
    (by rw [bytes_length, hz]; simp)
    (by
      intro j v hv
      obtain ⟨hj, rfl⟩ := bytes_get zs j v hv
      rw [← hc j hj]
      exact World.cell?_alloc_lt _ _ _ (World.block_lt_of_cell? _ _ (hc j hj)))
    (by rw [bytes_length, hz, size_madeCells]; omega) (bytes_one zs)
  have e : ((madeCells #[Value.int .u8 0] n).toList.take 0 ++ bytes zs ++ (madeCells #[Value.int .u8 0] n).toList.drop (0 + (bytes zs).length)) = bytes zs := by
    rw [List.drop_eq_nil_of_le (by rw [Nat.zero_add, bytes_length, Array.length_toList, size_madeCells]; omega)]
    simp
  rw [e, bytes_length, hz] at hrun
  exact ⟨_, hrun, setRow_heap _ _ _ _ _ _ hg, below_setRow ((Below.refl _ _).alloc (Nat.le_refl _) _) (Nat.le_refl _) _⟩

/-- A slice of bytes that came in: nil, or its elements zs lie at its address. -/
def Src (w : World) (a : Option Addr) (n cap : Nat) (zs : List Int) : Prop :=
  zs.length = n ∧ (a = none → n = 0 ∧ cap = 0) ∧ ∀ x, a = some x → ∀ j, j < n → w.cell? (x.add j) = some (.int .u8 (zs.getD j 0))
theorem Src.news {w w' : World} {a : Option Addr} {n cap : Nat} {zs : List Int} (h : Src w a n cap zs) (hb : Below w.heap.size w w') :
    ∀ ad, a = some ad → ∀ j u, (bytes zs)[j]? = some u → w'.cell? (ad.add j) = some u := by
  intro ad had j u hu
  obtain ⟨hj, rfl⟩ := bytes_get zs j u hu
  have hc := h.2.2 ad had j (by rw [← h.1]; exact hj)
  rw [hb.cell (World.block_lt_of_cell? _ _ hc)]
  exact hc
theorem bytes_append (xs ys : List Int) : bytes (xs ++ ys) = bytes xs ++ bytes ys := by simp [bytes]
/-- A byte of a row that the call owns. -/
theorem own_byte {w : World} {B g n cap : Nat} {zs : List Int} (h : w.ownsRow B 5 1 (.slice (some ⟨g, 0, none⟩) n cap) n (bytes zs)) (j : Nat) (hj : j < zs.length) : w.cell? ⟨g, j, none⟩ = some (.int .u8 (zs.getD j 0)) := by
  have hl := h.1
  rw [bytes_length] at hl
  rw [h.cellAt j (by omega)]
  simp [bytes, hj]
theorem own_lt {w : World} {B g n cap : Nat} {xs : List Value} (h : w.ownsRow B 5 1 (.slice (some ⟨g, 0, none⟩) n cap) n xs) : g < w.heap.size := by
  rcases h.2 with ⟨h', _⟩ | ⟨g', cap', cur, h', _, hg, _⟩
  · simp at h'
  · simp only [Value.slice.injEq, Option.some.injEq, Addr.mk.injEq, and_true, true_and] at h'
    obtain ⟨rfl, rfl⟩ := h'
    exact (Array.getElem?_eq_some_iff.1 hg).1
end Go.Proofs.Qxb6600845a
