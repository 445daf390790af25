/-
  WHAT THE LAW'S BODY NEEDS BESIDES: a copy of the names; an append of nothing; the text of nil; the nodes as they are made.
-/
import Derived.Test.Qxb6602852aText
import Derived.Test.Qxb6602852aBytes
import Derived.Laws.CopyOwn
namespace Go.Proofs.Qxb6602852a
open Go.RowKit
set_option linter.unusedVariables false

theorem Try.size9 : (Try.prog.info? 9).map (·.size) = some 1 := by kernel_rfl
/-- The cells of a row of names. -/
def texts (ss : List ByteArray) : List Value := ss.map Value.string
theorem texts_length (ss : List ByteArray) : (texts ss).length = ss.length := by simp [texts]
theorem texts_one (ss : List ByteArray) : ∀ v ∈ texts ss, v.oneCell' = true := by
  intro v hv
  simp [texts] at hv
  obtain ⟨n, _, rfl⟩ := hv
  rfl
theorem texts_get (ss : List ByteArray) (j : Nat) (v : Value) (h : (texts ss)[j]? = some v) : j < ss.length ∧ v = .string (nm ss j) := by
  simp [texts, List.getElem?_map] at h
  obtain ⟨a, ha, rfl⟩ := h
  have hj : j < ss.length := (List.getElem?_eq_some_iff.1 ha).1
  refine ⟨hj, ?_⟩
  simp [nm, List.getD, ha]
theorem make_names (n : Nat) (hn : n ≤ 65536) (w : World) :
    (Instr.makeSlice 22 (.int .i64 (n : Int)) (.int .i64 (n : Int))).run Try.prog w = .ok (.slice (some ⟨w.heap.size, 0, none⟩) n n) (w.alloc (.cells (madeCells #[.string ByteArray.empty] n) 9)) := by
  obtain ⟨i0, hi, hz0, hz1, hz2⟩ := info_parts Try.info9
  have h := run_make (P := Try.prog) w 22 9 i0 (.string ByteArray.empty) Try.underlying22 hi hz0 .i64 .i64 n n (by omega) (Int.le_refl _) (by rw [hz2]; omega) (by omega)
  have e : (Value.string ByteArray.empty).cells = #[Value.string ByteArray.empty] := rfl
  rw [hz1, e] at h
  simpa using h
theorem cell_at {W : World} {b : Nat} {cs : Array Value} {t : TypeId} {fr : Nat × Nat} (h : W.heap[b]? = some (.cells cs t fr)) (j : Nat) : W.cell? ⟨b, j, none⟩ = cs[j]? := by simp [World.cell?, h]
theorem copied (x : Addr) (n cap : Nat) (ss : List ByteArray) (w : World) (hz : ss.length = n) (hc : ∀ j, j < ss.length → w.cell? (x.add j) = some (.string (nm ss j))) :
    ∃ W2, (Builtin.copy_ #[22, 22] 3 #[.slice (some ⟨w.heap.size, 0, none⟩) n n, .slice (some x) n cap]).run Try.prog (w.alloc (.cells (madeCells #[.string ByteArray.empty] n) 9)) = .ok (.int .i64 (n : Int)) W2 ∧
      Strs W2 (some ⟨w.heap.size, 0, none⟩) n n ss ∧ Below w.heap.size w W2 := by
  have hg : (w.alloc (.cells (madeCells #[.string ByteArray.empty] n) 9)).heap[w.heap.size]? = some (.cells (madeCells #[.string ByteArray.empty] n) 9 (0, 0)) := heap_alloc_new _ _
  have hrun := run_copy_row Try.prog (w.alloc (.cells (madeCells #[.string ByteArray.empty] n) 9)) 22 22 3 9 w.heap.size 0 n n x n cap _ 9 (texts ss) Try.underlying22 Try.size9 hg
    (by rw [texts_length, hz]; simp)
    (by
      intro j v hv
      obtain ⟨hj, rfl⟩ := texts_get ss j v hv
      rw [← hc j hj]
      exact World.cell?_alloc_lt _ _ _ (World.block_lt_of_cell? _ _ (hc j hj)))
    (by rw [texts_length, hz, size_madeCells]; omega) (texts_one ss)
  have e : ((madeCells #[Value.string ByteArray.empty] n).toList.take 0 ++ texts ss ++ (madeCells #[Value.string ByteArray.empty] n).toList.drop (0 + (texts ss).length)) = texts ss := by
    rw [List.drop_eq_nil_of_le (by rw [Nat.zero_add, texts_length, Array.length_toList, size_madeCells]; omega)]
    simp
  rw [e, texts_length, hz] at hrun
  have hrow := setRow_heap (w.alloc (.cells (madeCells #[.string ByteArray.empty] n) 9)) w.heap.size _ (texts ss).toArray _ _ hg
  refine ⟨_, hrun, ⟨hz, (fun h => by cases h), fun y hy j hj => ?_⟩, below_setRow ((Below.refl _ _).alloc (Nat.le_refl _) _) (Nat.le_refl _) _⟩
  cases hy
  rw [Addr.add_lit, Nat.zero_add]
  rw [cell_at hrow]
  simp [texts, nm, List.getD, hz, hj]
/-- append(v, nil...). -/
theorem run_append_none (W : World) (b : Option Addr) (n c : Nat) (ty : TypeId) (hn : n ≤ c) : (Builtin.append_ #[27, 27] ty #[.slice b n c, .slice none 0 0]).run Try.prog W = .ok (.slice b n c) W := by
  obtain ⟨i5, hi5, h50, h51, h52⟩ := info_parts Try.info5
  cases b <;> simp [Builtin.append_, run_underlying Try.underlying27, sizeOf, typeInfo, hi5, Builtin.lenOf, Builtin.firstCells, storeCells, hn]
/-- text of nil. -/
theorem text_nil (w : World) : Calls Try.prog 18 #[.pointer none] w fun e w' => e = .returned (.string ByteArray.empty) ∧ w' = w := by
  go_enter Try.func18, Try.ntmps18
  go_wp2
  go_ret
  exact ⟨rfl, rfl⟩
theorem zztext_nil (w : World) : Calls Try.prog 7 #[.pointer none] w fun e w' => e = .returned (.string ByteArray.empty) ∧ w' = w := by
  go_enter Try.func7, Try.ntmps7
  go_wp2_with fail
  refine (text_nil w).mono ?_
  rintro e w' ⟨rfl, rfl⟩
  go_wp2
  go_ret
  exact ⟨rfl, rfl⟩
theorem zztext_any (k : Nat) (blk : Nat → Nat) (pth : Nat → ByteArray) (s au : ByteArray) (h : Bool) (w : World) (hN : Nodes w k blk pth s au h) (hk : k ≤ 65536) (hz : s.size + au.size + psum pth (k + 1) ≤ 2097152) (hp : ∀ j, (pth j).size ≤ 1048576) :
    Calls Try.prog 7 #[.pointer (some ⟨blk 0, 0, none⟩)] w fun e w' => e = .returned (.string ⟨(preT s au h ++ chain ((List.range (k + 1)).map pth)).toArray⟩) ∧ Below w.heap.size w w' := by
  have HC := text_any k blk pth s au h w hN hk hz hp
  generalize (⟨(preT s au h ++ chain ((List.range (k + 1)).map pth)).toArray⟩ : ByteArray) = T at *
  go_enter Try.func7, Try.ntmps7
  go_wp2_with fail
  refine HC.mono ?_
  rintro e w' ⟨rfl, hb⟩
  go_wp2
  go_ret
  exact ⟨rfl, hb⟩

/-! ### the nodes as they are made -/
/-- The pointer to the node of name t. -/
def upt (B0 n t : Nat) : Option Addr := if t = n then none else some ⟨B0 + (n - 1 - t), 0, none⟩
structure Ch (W5 W : World) (B0 n t : Nat) (s6 s7 : ByteArray) (b8 : Bool) (ss : List ByteArray) : Prop where
  sz : W.heap.size = B0 + (n - t)
  bel : Below B0 W5 W
  nodes : ∀ t', t ≤ t' → t' < n → W.heap[B0 + (n - 1 - t')]? = some (.cells #[.string s6, .string s7, .bool b8, .string (nm ss t'), .pointer (upt B0 n (t' + 1))] 40)
theorem Ch.start (W5 : World) (n : Nat) (s6 s7 : ByteArray) (b8 : Bool) (ss : List ByteArray) : Ch W5 W5 W5.heap.size n n s6 s7 b8 ss := ⟨by omega, Below.refl _ _, fun t' h1 h2 => by omega⟩
theorem Ch.step {W5 W : World} {B0 n t : Nat} {s6 s7 : ByteArray} {b8 : Bool} {ss : List ByteArray} (h : Ch W5 W B0 n (t + 1) s6 s7 b8 ss) (ht : t < n) :
    Ch W5 (W.alloc (.cells #[.string s6, .string s7, .bool b8, .string (nm ss t), .pointer (upt B0 n (t + 1))] 40)) B0 n t s6 s7 b8 ss ∧ some ⟨W.heap.size, 0, none⟩ = upt B0 n t := by
  have hs := h.sz
  refine ⟨⟨by simp; omega, h.bel.alloc (by omega) _, fun t' h1 h2 => ?_⟩, ?_⟩
  · by_cases e : t' = t
    · subst e
      rw [show B0 + (n - 1 - t') = W.heap.size from by omega]
      exact heap_alloc_new _ _
    · exact (Below.heap_alloc _ _ _ (by omega)).trans (h.nodes t' (by omega) h2)
  · unfold upt
    rw [if_neg (by omega), show B0 + (n - 1 - t) = W.heap.size from by omega]
/-- The paths of the chain, from its first node. -/
def pthOf (s4 : ByteArray) (ss : List ByteArray) (j : Nat) : ByteArray := if j = 0 ∨ ss.length = 0 then s4 else nm ss (min j ss.length - 1)
theorem pthOf_size (s4 : ByteArray) (ss : List ByteArray) (j M : Nat) (h4 : s4.size ≤ M) (hs : slen ss ≤ M) : (pthOf s4 ss j).size ≤ M := by
  unfold pthOf
  split
  · exact h4
  · refine Nat.le_trans ?_ hs
    generalize hi : min j ss.length - 1 = i
    by_cases hl : i < ss.length
    · have h1 := slen_take_succ ss i hl
      have h2 := slen_take_le ss (i + 1)
      omega
    · have : nm ss i = ByteArray.empty := by simp [nm, List.getD, List.getElem?_eq_none (Nat.le_of_not_lt hl)]
      rw [this]; simp
theorem pthOf_map (s4 : ByteArray) (ss : List ByteArray) : (List.range (ss.length + 1)).map (pthOf s4 ss) = s4 :: ss := by
  apply List.ext_getElem
  · simp
  · intro i h1 h2
    simp only [List.getElem_map, List.getElem_range]
    cases i with
    | zero => simp [pthOf]
    | succ i =>
      simp at h2
      simp only [pthOf, List.getElem_cons_succ]
      rw [if_neg (by omega), show min (i + 1) ss.length - 1 = i from by omega, nm_get h2]
theorem psum_pthOf (s4 : ByteArray) (ss : List ByteArray) : ∀ k, k ≤ ss.length → psum (pthOf s4 ss) (k + 1) = 1 + s4.size + (k + slen (ss.take k)) := by
  intro k
  induction k with
  | zero => intro _; simp [psum, pthOf, slen]
  | succ k ih =>
    intro hk
    rw [psum, ih (by omega), slen_take_succ ss k (by omega)]
    have : pthOf s4 ss (k + 1) = nm ss k := by
      unfold pthOf
      rw [if_neg (by omega), show min (k + 1) ss.length - 1 = k from by omega]
    rw [this]; omega
theorem nodes_of {W5 W : World} {B0 n : Nat} {s1 s2 s4 s6 s7 : ByteArray} {b3 b8 : Bool} {ss : List ByteArray} (h : Ch W5 W B0 n 0 s6 s7 b8 ss) (hl : ss.length = n) :
    Nodes (W.alloc (.cells #[.string s1, .string s2, .bool b3, .string s4, .pointer (upt B0 n 0)] 40)) n (fun j => B0 + (n - j)) (pthOf s4 ss) s1 s2 b3 := by
  have hs := h.sz
  generalize hW : W.alloc (.cells #[.string s1, .string s2, .bool b3, .string s4, .pointer (upt B0 n 0)] 40) = W6
  have htop : W6.heap[B0 + (n - 0)]? = some (.cells #[.string s1, .string s2, .bool b3, .string s4, .pointer (upt B0 n 0)] 40) := by
    rw [← hW, show B0 + (n - 0) = W.heap.size from by omega]; exact heap_alloc_new _ _
  have hsz : W6.heap.size = B0 + n + 1 := by rw [← hW]; simp; omega
  have hnode : ∀ j, 0 < j → j ≤ n → W6.heap[B0 + (n - j)]? = some (.cells #[.string s6, .string s7, .bool b8, .string (nm ss (j - 1)), .pointer (upt B0 n j)] 40) := by
    intro j h1 h2
    have := h.nodes (j - 1) (by omega) (by omega)
    rw [show n - 1 - (j - 1) = n - j from by omega, show j - 1 + 1 = j from by omega] at this
    rw [← hW]
    exact (Below.heap_alloc _ _ _ (by omega)).trans this
  refine ⟨fun j => by rw [hsz]; omega, fun j => ?_, fun j hj => ?_, ?_, ?_, ?_, ?_⟩
  · by_cases h0 : j = 0 ∨ ss.length = 0
    · have e : n - j = n - 0 := by omega
      rw [e, cell_at htop, show pthOf s4 ss j = s4 from by unfold pthOf; rw [if_pos h0]]; rfl
    · by_cases hj : j ≤ n
      · rw [cell_at (hnode j (by omega) hj)]
        simp only [pthOf, h0, if_false]
        rw [show min j ss.length - 1 = j - 1 from by omega]; rfl
      · rw [show n - j = n - n from by omega, cell_at (hnode n (by omega) (Nat.le_refl _))]
        simp only [pthOf, h0, if_false]
        rw [show min j ss.length - 1 = n - 1 from by omega]; rfl
  · have e : some (⟨B0 + (n - (j + 1)), 0, none⟩ : Addr) = upt B0 n j := by
      unfold upt
      rw [if_neg (by omega), show n - 1 - j = n - (j + 1) from by omega]
    by_cases h0 : j = 0
    · subst h0
      rw [cell_at htop, e]; rfl
    · rw [cell_at (hnode j (by omega) (by omega)), e]; rfl
  · by_cases h0 : n = 0
    · subst h0
      rw [cell_at htop]; rfl
    · rw [cell_at (hnode n (by omega) (Nat.le_refl _))]
      simp [upt]
  · rw [cell_at htop]; rfl
  · rw [cell_at htop]; rfl
  · rw [cell_at htop]; rfl
/-- append(v, u...) of two buffers. -/
theorem wpList_app_buf {ops : Array Oper} {rest : List Oper} {o : Oper} {a : Act} {W : World} {Q : Exit → Act → World → Prop} (hgd : o.guard = none) (s x : Operand) (ho : o.op = .call { callee := .builtin .append, args := #[s, x], argTypes := #[27, 27] }) {B B9 : Nat} {v v9 : Value} {l l9 : List UInt8} (hb : Buf W B v l) (hb9 : Buf W B9 v9 l9) (hs : a.eval s = v) (hx : a.eval x = v9) (hlen : l.length + l9.length ≤ 140737488355328) (hB : B ≤ W.heap.size)
    (h : ∀ a' n' c' W', Buf W' B (.slice a' n' c') (l ++ l9) → W.grownBy W' v.ownBlock → wpList Try.prog ops Q rest (a.put o.dst (.slice a' n' c')) W') : wpList Try.prog ops Q (o :: rest) a W := by
  obtain ⟨i5, hi5, h50, h51, h52⟩ := info_parts Try.info5
  have key : ∃ a' n' c' W', (Builtin.append_ #[27, 27] o.type #[v, v9]).run Try.prog W = .ok (.slice a' n' c') W' ∧ Buf W' B (.slice a' n' c') (l ++ l9) ∧ W.grownBy W' v.ownBlock := by
    rcases hb9.2 with ⟨rfl, h0⟩ | ⟨g, cap, cur, rfl, _⟩
    · have e9 : l9 = [] := List.eq_nil_of_length_eq_zero h0
      subst e9
      rcases hb.2 with ⟨rfl, h1⟩ | ⟨g, cap, cur, rfl, _, _, hc, _⟩
      · exact ⟨_, _, _, W, run_append_none W _ _ _ _ (Nat.le_refl _), by simpa using hb, ⟨rfl, rfl, rfl, Nat.le_refl _, fun _ _ _ => rfl⟩⟩
      · exact ⟨_, _, _, W, run_append_none W _ _ _ _ hc, by simpa using hb, ⟨rfl, rfl, rfl, Nat.le_refl _, fun _ _ _ => rfl⟩⟩
    · obtain ⟨v', W', hr, hown, hg, _⟩ := run_append_own_at (P := Try.prog) W B 27 o.type 5 i5 (.int .u8 0) 1 1 Try.underlying27 hi5 h50 h51 h52 rfl Nat.one_pos v l.length (bs l) hb ⟨g, 0, none⟩ l9.length cap (bs l9) (by simp [bs])
        (fun j u hj => by
          have hjl : j < l9.length := by
            have := (List.getElem?_eq_some_iff.1 hj).1
            simpa [bs] using this
          rw [Addr.add_lit, Nat.zero_add, hb9.cell hjl]
          simpa [bs, hjl] using hj)
        (by intro u hu; simp [bs] at hu; obtain ⟨z, _, rfl⟩ := hu; rfl) (by unfold maxLen; omega) (by omega) hB
      have hb' : Buf W' B v' (l ++ l9) := by
        unfold Buf
        rw [bs_append, List.length_append]; exact hown
      obtain ⟨a', c', rfl⟩ := hb'.shape
      exact ⟨a', _, c', W', hr, hb', hg⟩
  obtain ⟨a', n', c', W', hr, h1, h2⟩ := key
  refine wpList_plain hgd fun K hK => ?_
  unfold Oper.wp execOp
  simp only [ho, resolve, invoke, builtin, Sem.run_bind, Sem.run_pure, Result.andThen_ok, List.map_toArray, List.map_cons, List.map_nil, hs, hx, hr]
  exact hK _ _ (h _ _ _ _ h1 h2)
theorem wpList_text_buf {ops : Array Oper} {rest : List Oper} {o : Oper} {a : Act} {W : World} {Q : Exit → Act → World → Prop} (hgd : o.guard = none) (s x : Operand) (ho : o.op = .call { callee := .builtin .append, args := #[s, x], argTypes := #[27, 9] }) {B : Nat} {v : Value} {l : List UInt8} (hb : Buf W B v l) (hs : a.eval s = v) (p : ByteArray) (hx : a.eval x = .string p) (hlen : l.length + p.size ≤ 140737488355328) (hB : B ≤ W.heap.size)
    (h : ∀ a' n' c' W', Buf W' B (.slice a' n' c') (l ++ p.data.toList) → W.grownBy W' v.ownBlock → wpList Try.prog ops Q rest (a.put o.dst (.slice a' n' c')) W') : wpList Try.prog ops Q (o :: rest) a W := by
  obtain ⟨i5, hi5, h50, h51, h52⟩ := info_parts Try.info5
  refine Lib.wpList_append_own_string (w := W) hgd s x 27 9 ho B 5 i5 Try.underlying27 Try.underlying9 hi5 h50 h51 h52 v l.length (bs l) hs hb p hx (by unfold maxLen; omega) hlen hB ?_
  intro v' W' hown hg _
  have hb' : Buf W' B v' (l ++ p.data.toList) := buf_text hown
  obtain ⟨a', c', rfl⟩ := hb'.shape
  exact h _ _ _ _ hb' hg
end Go.Proofs.Qxb6602852a
