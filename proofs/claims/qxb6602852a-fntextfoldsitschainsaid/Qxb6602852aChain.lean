/-
  CHAINPATH.
-/
import Derived.Test.Qxb6602852aPlain
namespace Go.Proofs.Qxb6602852a
open Go.RowKit
set_option linter.unusedVariables false

theorem one_byte (c : Int) : ∀ u ∈ [Value.int .u8 c], u.oneCell' = true := by simp [Value.oneCell']
theorem bs_one (c : UInt8) : bs [c] = [Value.int .u8 c.toNat] := rfl
theorem buf_slash {w : World} {B : Nat} {v : Value} {l : List UInt8} (h : w.ownsRow B 5 1 v (l.length + 1) (bs l ++ [.int .u8 47])) : Buf w B v (l ++ [47]) := by
  unfold Buf
  rw [bs_append, List.length_append]; exact h
theorem buf_text {w : World} {B : Nat} {v : Value} {l : List UInt8} {s : ByteArray} (h : w.ownsRow B 5 1 v (l.length + s.size) (bs l ++ Lib.strCells s)) : Buf w B v (l ++ s.data.toList) := by
  unfold Buf
  rw [bs_append, List.length_append, str_len, ← bs_str]; exact h

theorem chain_mid {w w1 w2 : World} {v v2 : Value} {l : List UInt8} {yb yo : Nat} {p : ByteArray} {o : Obj} (h : Buf w1 w.heap.size v l) (hb1 : Below w.heap.size w w1) (hown : w2.ownsRow w.heap.size 5 1 v2 (l.length + 1) (bs l ++ [.int .u8 47])) (hgr : (w1.alloc o).grownBy w2 v.ownBlock) (hyl : yb < w.heap.size) (c1 : w.cell? ⟨yb, yo, none⟩ = some (.string p)) :
    ∃ g2 n2 d2, v2 = .slice (some ⟨g2, 0, none⟩) n2 d2 ∧ Hid (Buf w2 w.heap.size v2 (l ++ [47])) ∧ Below w.heap.size w w2 ∧ w2.cell? ⟨yb, yo, none⟩ = some (.string p) := by
  have HB3 : Buf w2 w.heap.size v2 (l ++ [47]) := buf_slash hown
  have hb2 : Below w.heap.size w w2 := (hb1.alloc hb1.size _).grown hgr (Nat.le_trans hb1.size (by simp)) (fun k h' => h.ge k h')
  obtain ⟨g2, d2, hv2, _, _, _⟩ := HB3.there (by simp)
  exact ⟨g2, _, d2, hv2, HB3, hb2, (hb2.cell (p := ⟨yb, yo, none⟩) hyl).trans c1⟩
theorem chain_end {w w2 w3 : World} {v v3 : Value} {l : List UInt8} {p : ByteArray} (h : Buf w2 w.heap.size v l) (hb2 : Below w.heap.size w w2) (hown : w3.ownsRow w.heap.size 5 1 v3 (l.length + p.size) (bs l ++ Lib.strCells p)) (hgr : w2.grownBy w3 v.ownBlock) :
    ∃ av n3 cv, v3 = .slice av n3 cv ∧ Hid (Buf w3 w.heap.size v3 (l ++ p.data.toList)) ∧ Below w.heap.size w w3 := by
  have HB4 : Buf w3 w.heap.size v3 (l ++ p.data.toList) := buf_text hown
  obtain ⟨av, cv, hv⟩ := HB4.shape
  exact ⟨av, _, cv, hv, HB4, hb2.grown hgr hb2.size (fun k h' => h.ge k h')⟩
theorem room1 {k : Nat} (h : k ≤ 4194304) : k + 1 ≤ maxLen := by unfold maxLen; omega
theorem room2 {k : Nat} (h : k ≤ 4194304) : (k + 1) * 1 ≤ 140737488355328 := by omega
theorem room3 {l : List UInt8} {p : ByteArray} (h : l.length ≤ 4194304) (h' : p.size ≤ 4194304) : (l ++ [(47 : UInt8)]).length + p.size ≤ maxLen := by unfold maxLen; simp; omega
theorem room4 {l : List UInt8} {p : ByteArray} (h : l.length ≤ 4194304) (h' : p.size ≤ 4194304) : (l ++ [(47 : UInt8)]).length + p.size ≤ 140737488355328 := by simp; omega
set_option maxRecDepth 100000 in
set_option maxHeartbeats 2000000 in
theorem chain_any : ∀ (ss : List ByteArray), ss ≠ [] → ∀ (a : Option Addr) (n cap : Nat) (w : World), Strs w a n cap ss → n ≤ cap → slen ss + ss.length ≤ 4194304 → cap ≤ 9223372036854775807 →
    Calls Try.prog 9 #[.slice none 0 0, .slice a n cap] w fun e w' => ∃ v, e = .returned v ∧ Hid (Buf w' w.heap.size v (chain ss)) ∧ Below w.heap.size w w' := by
  obtain ⟨i5, hi5, h50, h51, h52⟩ := info_parts Try.info5
  intro ss
  induction ss with
  | nil => intro h; exact absurd rfl h
  | cons p r ih =>
    intro _ a n cap w hS hnc hz hcap
    obtain ⟨yb, yo, rfl, c0, hyl⟩ := hS.at (j := 0) (by have := hS.1; simp at this; omega)
    have hn := hS.1
    cases r with
    | nil =>
      obtain rfl : n = 1 := by simpa using hn.symm
      have c1 : w.cell? ⟨yb, yo, none⟩ = some (.string p) := c0
      have hzp : p.size ≤ 4194304 := by simp [slen] at hz; omega
      have HS : Hid (Strs w (some ⟨yb, yo, none⟩) 1 cap [p]) := hS
      clear hS c0 ih hz hn
      go_enter Try.func9, Try.ntmps9
      go_wp2_with (at_builtin; refine Lib.wpList_append_own_string (w := w) rfl (.tmp 8) (.tmp 11) 27 9 rfl w.heap.size 5 i5 Try.underlying27 Try.underlying9 hi5 h50 h51 h52 (.slice none 0 0) 0 [] rfl (World.ownsRow_nil _ _ _ _) p rfl (by unfold maxLen; omega) (by omega) (Nat.le_refl _) ?_; intro v' w' hown hgr hnil)
      have hb : Hid (Buf w' w.heap.size v' (chain [p])) := buf_text (l := []) hown
      have hbl : Below w.heap.size w w' := (Below.refl _ _).grown hgr (Nat.le_refl _) (fun k h => by simp [Value.ownBlock] at h)
      clear hown hgr hnil
      obtain ⟨av, cv, rfl⟩ := hb.out.shape
      go_wp2
      go_ret
      exact ⟨_, rfl, hb, hbl⟩
    | cons q r =>
      obtain ⟨m, rfl⟩ : ∃ m, n = m + 1 := ⟨n - 1, by simp at hn; omega⟩
      have hm : r.length + 1 = m := by simpa using hn
      have hS' : Strs w (some ⟨yb, yo + 1, none⟩) m (cap - 1) (q :: r) := by
        refine ⟨by simpa using hm, (fun h => by cases h), fun x hx j hj => ?_⟩
        cases hx
        have := hS.2.2 _ rfl (j + 1) (by omega)
        rw [Addr.add_lit] at this ⊢
        rw [show yo + 1 + j = yo + (j + 1) from by omega, this]
        simp [nm]
      have hzr : slen (q :: r) + (q :: r).length ≤ 4194304 := by simp [slen] at hz ⊢; omega
      have HC : Hid (Calls Try.prog 9 #[.slice none 0 0, .slice (some ⟨yb, yo + 1, none⟩) m (cap - 1)] w fun e w' => ∃ v, e = .returned v ∧ Hid (Buf w' w.heap.size v (chain (q :: r))) ∧ Below w.heap.size w w') := ih (by simp) _ m (cap - 1) w hS' (by omega) hzr (by omega)
      have HL : Hid ((chain (q :: r)).length ≤ 4194304) := Nat.le_trans (chain_length _) hzr
      have hsl := strip_length (chain (q :: r))
      have HSL : Hid ((strip (chain (q :: r))).length ≤ 4194304) := Nat.le_trans hsl HL.out
      have HCH : Hid (chain (p :: q :: r) = strip (chain (q :: r)) ++ [47] ++ p.data.toList) := rfl
      have hzp : p.size ≤ 4194304 := by simp [slen] at hz; omega
      have c1 : w.cell? ⟨yb, yo, none⟩ = some (.string p) := c0
      have hm1 : ((m : Int) + 1 == 1) = false := by rw [beq_eq_false_iff_ne]; omega
      have hm2 : ¬ m = 0 := by omega
      have hcp : (1 : Int) ≤ cap := by omega
      have hmc : (m : Int) + 1 ≤ cap := by omega
      clear hS hS' ih hzr c0 hsl hz hn hm
      generalize chain (q :: r) = L at *
      generalize chain (p :: q :: r) = T at *
      go_enter Try.func9, Try.ntmps9
      go_wp2_with fail
      refine HC.out.mono ?_
      rintro e w1 ⟨v, rfl, HB, hb1⟩
      clear HC
      rcases List.eq_nil_or_concat L with rfl | ⟨l, x, hl⟩
      · obtain ⟨av, cv, rfl⟩ := HB.out.shape
        have hst : strip [] = [] := rfl
        have HB2 : Hid (Buf w1 w.heap.size (.slice av 0 cv) []) := HB
        have hlt : ([] : List UInt8).length ≤ 4194304 := by simp
        have hyw : yb < w1.heap.size := Nat.lt_of_lt_of_le hyl hb1.size
        go_wp2_with (first | (at_builtin; refine wpList_append_own_at _ rfl (.tmp 34) (.tmp 35) 27 rfl w.heap.size 5 i5 (.int .u8 0) 1 1 Try.underlying27 hi5 h50 h51 h52 rfl Nat.one_pos (.slice av 0 cv) ([] : List UInt8).length (bs ([] : List UInt8)) rfl (HB2.out.alloc _) ⟨w1.heap.size, 0, none⟩ 1 1 [.int .u8 47] rfl rfl (cell_one_new _ _ _) (one_byte 47) (room1 hlt) (room2 hlt) (Nat.le_trans hb1.size (by simp)) ?_; intro v2 w2 hown2 hgr2 hnil2 hloc2; obtain ⟨g2, n2, d2, rfl, HB3, hb2, e1⟩ := chain_mid HB2.out hb1 hown2 hgr2 hyl c1; clear hown2 hgr2 hnil2 hloc2) | (at_builtin; refine Lib.wpList_append_own_string (w := w2) rfl (.tmp 37) (.tmp 40) 27 9 rfl w.heap.size 5 i5 Try.underlying27 Try.underlying9 hi5 h50 h51 h52 (.slice (some ⟨g2, 0, none⟩) n2 d2) (([] : List UInt8) ++ [(47 : UInt8)]).length (bs (([] : List UInt8) ++ [47])) rfl HB3.out p rfl (room3 hlt hzp) (room4 hlt hzp) hb2.size ?_; intro v3 w3 hown3 hgr3 hnil3; obtain ⟨av3, n3, cv3, rfl, HB4, hb3⟩ := chain_end HB3.out hb2 hown3 hgr3; clear hown3 hgr3 hnil3))
        go_ret
        rw [HCH.out, hst]
        exact ⟨_, rfl, HB4, hb3⟩
      · rw [List.concat_eq_append] at hl
        subst hl
        have hlt : l.length ≤ 4194304 := by have := HL.out; simp at this; omega
        have hlt2 : (l ++ [x]).length ≤ 4194304 := HL.out
        obtain ⟨g, c, rfl, hg1, hg2, hgc⟩ := HB.out.there (by simp)
        have hlast : w1.cell? ⟨g, l.length, none⟩ = some (.int .u8 (x.toNat : Int)) := by
          have := HB.out.cell (j := l.length) (by simp)
          simpa using this
        have hll : (l ++ [x]).length = l.length + 1 := by simp
        rw [hll] at hgc
        have hgc' : (l.length : Int) + 1 ≤ c := by omega
        have hgc2 : (l.length : Int) ≤ c := by omega
        by_cases hx : x = 47
        · subst hx
          have hst : strip (l ++ [47]) = l := strip_snoc_slash l
          have HB2 : Hid (Buf w1 w.heap.size (.slice (some ⟨g, 0, none⟩) l.length c) l) := HB.out.cut
          rw [hll]
          have hx1 : (((47 : UInt8).toNat : Int) == 47) = true := by decide
          have hyw : yb < w1.heap.size := Nat.lt_of_lt_of_le hyl hb1.size
          go_wp2_with (first | (at_builtin; refine wpList_append_own_at _ rfl (.tmp 34) (.tmp 35) 27 rfl w.heap.size 5 i5 (.int .u8 0) 1 1 Try.underlying27 hi5 h50 h51 h52 rfl Nat.one_pos (.slice (some ⟨g, 0, none⟩) l.length c) l.length (bs l) rfl (HB2.out.alloc _) ⟨w1.heap.size, 0, none⟩ 1 1 [.int .u8 47] rfl rfl (cell_one_new _ _ _) (one_byte 47) (room1 hlt) (room2 hlt) (Nat.le_trans hb1.size (by simp)) ?_; intro v2 w2 hown2 hgr2 hnil2 hloc2; obtain ⟨g2, n2, d2, rfl, HB3, hb2, e1⟩ := chain_mid HB2.out hb1 hown2 hgr2 hyl c1; clear hown2 hgr2 hnil2 hloc2) | (at_builtin; refine Lib.wpList_append_own_string (w := w2) rfl (.tmp 37) (.tmp 40) 27 9 rfl w.heap.size 5 i5 Try.underlying27 Try.underlying9 hi5 h50 h51 h52 (.slice (some ⟨g2, 0, none⟩) n2 d2) (l ++ [(47 : UInt8)]).length (bs (l ++ [47])) rfl HB3.out p rfl (room3 hlt hzp) (room4 hlt hzp) hb2.size ?_; intro v3 w3 hown3 hgr3 hnil3; obtain ⟨av3, n3, cv3, rfl, HB4, hb3⟩ := chain_end HB3.out hb2 hown3 hgr3; clear hown3 hgr3 hnil3))
          go_ret
          rw [HCH.out, hst]
          exact ⟨_, rfl, HB4, hb3⟩
        · have hst : strip (l ++ [x]) = l ++ [x] := strip_snoc_other l hx
          have hx1 : ((x.toNat : Int) == 47) = false := by
            rw [beq_eq_false_iff_ne]; intro h; apply hx
            apply UInt8.toNat_inj.1; simp; omega
          have HB2 : Hid (Buf w1 w.heap.size (.slice (some ⟨g, 0, none⟩) (l.length + 1) c) (l ++ [x])) := by
            have := HB.out
            rw [hll] at this
            exact this
          rw [hll]
          have hyw : yb < w1.heap.size := Nat.lt_of_lt_of_le hyl hb1.size
          go_wp2_with (first | (at_builtin; refine wpList_append_own_at _ rfl (.tmp 34) (.tmp 35) 27 rfl w.heap.size 5 i5 (.int .u8 0) 1 1 Try.underlying27 hi5 h50 h51 h52 rfl Nat.one_pos (.slice (some ⟨g, 0, none⟩) (l.length + 1) c) (l ++ [x]).length (bs (l ++ [x])) rfl (HB2.out.alloc _) ⟨w1.heap.size, 0, none⟩ 1 1 [.int .u8 47] rfl rfl (cell_one_new _ _ _) (one_byte 47) (room1 hlt2) (room2 hlt2) (Nat.le_trans hb1.size (by simp)) ?_; intro v2 w2 hown2 hgr2 hnil2 hloc2; obtain ⟨g2, n2, d2, rfl, HB3, hb2, e1⟩ := chain_mid HB2.out hb1 hown2 hgr2 hyl c1; clear hown2 hgr2 hnil2 hloc2) | (at_builtin; refine Lib.wpList_append_own_string (w := w2) rfl (.tmp 37) (.tmp 40) 27 9 rfl w.heap.size 5 i5 Try.underlying27 Try.underlying9 hi5 h50 h51 h52 (.slice (some ⟨g2, 0, none⟩) n2 d2) ((l ++ [x]) ++ [(47 : UInt8)]).length (bs ((l ++ [x]) ++ [47])) rfl HB3.out p rfl (room3 hlt2 hzp) (room4 hlt2 hzp) hb2.size ?_; intro v3 w3 hown3 hgr3 hnil3; obtain ⟨av3, n3, cv3, rfl, HB4, hb3⟩ := chain_end HB3.out hb2 hown3 hgr3; clear hown3 hgr3 hnil3))
          go_ret
          rw [HCH.out, hst]
          exact ⟨_, rfl, HB4, hb3⟩
end Go.Proofs.Qxb6602852a
