/-
  THE LAW'S BODY.
-/
import Derived.Test.Qxb6602852aMain0
import Derived.Deep.DeepCutAuto
import Derived.Deep.CutRange
namespace Go.Proofs.Qxb6602852a
open Go.RowKit
set_option linter.unusedVariables false

theorem one_str (b : ByteArray) : ∀ u ∈ [Value.string b], u.oneCell' = true := by simp [Value.oneCell']
theorem texts_snoc (s4 : ByteArray) (ss : List ByteArray) (m : Nat) (h : m < ss.length) : texts (s4 :: ss.take m) ++ [.string (nm ss m)] = texts (s4 :: ss.take (m + 1)) := by
  rw [List.take_succ_eq_append_getElem h, nm_get h]; unfold texts; rw [List.map_cons, List.map_cons, List.map_append, List.cons_append]; rfl
theorem buf_new1 (W : World) : Buf (W.alloc (.cells #[.int .u8 58] 5)) 0 (.slice (some ⟨W.heap.size, 0, none⟩) 1 1) [58] :=
  ⟨rfl, .inr ⟨W.heap.size, 1, _, rfl, Nat.zero_le _, heap_alloc_new _ _, Nat.le_refl _, by unfold maxLen; omega, rfl, rfl⟩⟩
theorem buf_new2 (W : World) : Buf (W.alloc (.cells #[.int .u8 47, .int .u8 47] 5)) 0 (.slice (some ⟨W.heap.size, 0, none⟩) 2 2) [47, 47] :=
  ⟨rfl, .inr ⟨W.heap.size, 2, _, rfl, Nat.zero_le _, heap_alloc_new _ _, Nat.le_refl _, by unfold maxLen; omega, rfl, rfl⟩⟩
theorem Buf.later {W W' : World} {B : Nat} {v : Value} {l : List UInt8} (h : Buf W B v l) (hb : Below W.heap.size W W') : Buf W' B v l := by
  refine ⟨h.1, ?_⟩
  rcases h.2 with h0 | ⟨g, cap, cur, hv, h2, hh, h3⟩
  · exact .inl h0
  · exact .inr ⟨g, cap, cur, hv, h2, (hb.block g (Array.getElem?_eq_some_iff.1 hh).1).trans hh, h3⟩
theorem strs_row {W : World} {B m c : Nat} {a : Option Addr} {N : List ByteArray} (h : W.ownsRow B 9 1 (.slice a (m + 1) c) (m + 1) (texts N)) (hN : N.length = m + 1) : Strs W a (m + 1) c N ∧ m + 1 ≤ c ∧ c ≤ 9223372036854775807 := by
  rcases h.2 with ⟨h0, _⟩ | ⟨g, cap, cur, hv, _, _, hc, hm, _⟩
  · cases h0
  · cases hv
    refine ⟨⟨hN, (fun h => by cases h), fun x hx j hj => ?_⟩, hc, by unfold maxLen at hm; omega⟩
    cases hx
    rw [Addr.add_lit, Nat.zero_add, h.cellAt j (by omega)]
    simp [texts, nm, List.getD, hN, hj]
theorem preT_nil (s2 : ByteArray) (b : Bool) : preT ByteArray.empty s2 b = [] := rfl
theorem preT_some {s1 s2 : ByteArray} {b : Bool} (h : s1.toList.isEmpty = false) : preT s1 s2 b = s1.data.toList ++ [58] ++ (if b then [47, 47] ++ s2.data.toList else []) := by
  unfold preT
  rw [if_neg]
  intro e
  have := (empty_iff s1).2 (data_inj e)
  rw [h] at this; cases this
theorem upt_top (B0 n : Nat) : none = upt B0 n n := by unfold upt; rw [if_pos rfl]
set_option maxRecDepth 100000 in
set_option maxHeartbeats 2000000 in
theorem main_any (b0 b3 b8 : Bool) (s1 s2 s4 s6 s7 : ByteArray) (a : Option Addr) (n cap : Nat) (ss : List ByteArray) (w : World) (hS : Strs w a n cap ss) (hn : n ≤ maxLen)
    (z1 : s1.size ≤ maxLen) (z2 : s2.size ≤ maxLen) (z4 : s4.size ≤ maxLen) (z6 : s6.size ≤ maxLen) (z7 : s7.size ≤ maxLen) :
    Calls Try.prog 3 #[.bool b0, .string s1, .string s2, .bool b3, .string s4, .slice a n cap, .string s6, .string s7, .bool b8] w fun e w' => e = .returned (.bool true) ∧ Below w.heap.size w w' := by
  have HS : Hid (Strs w a n cap ss) := hS
  have hC6 := bytes_any b0 b3 b8 s1 s2 s4 s6 s7 a n cap ss w hS hn z1 z2 z4 z6 z7
  unfold maxLen at hn z1 z2 z4 z6 z7
  clear hS
  go_enter Try.func3, Try.ntmps3
  go_wp2_with fail
  refine hC6.mono ?_
  clear hC6
  rintro e w' ⟨hres, rfl⟩
  rcases hres with rfl | ⟨rfl, hsl⟩
  · go_wp2
    go_ret
    exact ⟨rfl, Below.refl _ _⟩
  by_cases h1 : 65536 < n
  · go_wp2
    go_ret
    exact ⟨rfl, Below.refl _ _⟩
  by_cases h2 : 1048576 < s1.size
  · go_wp2
    go_ret
    exact ⟨rfl, Below.refl _ _⟩
  by_cases h3 : 1048576 < s2.size
  · go_wp2
    go_ret
    exact ⟨rfl, Below.refl _ _⟩
  by_cases h4 : 1048576 < s4.size
  · go_wp2
    go_ret
    exact ⟨rfl, Below.refl _ _⟩
  by_cases h5 : 1048576 < s6.size
  · go_wp2
    go_ret
    exact ⟨rfl, Below.refl _ _⟩
  by_cases h6 : 1048576 < s7.size
  · go_wp2
    go_ret
    exact ⟨rfl, Below.refl _ _⟩
  --MAIN
  obtain ⟨i9, hi9, h90, h91, h92⟩ := info_parts Try.info9
  have hne := fun wx => run_neq_slice_nil_any (P := Try.prog) wx 22 9 a n cap 0 0 Try.underlying22
  go_wp2
  go_loop [19, 20] (fun t i => ∃ (k T : Nat), k ≤ n ∧ i = .int .i64 k ∧ t = .int .i64 T ∧ T ≤ 8388608 ∧ Hid (T = s1.size + s2.size + s4.size + s6.size + s7.size + 16 * n + slen (ss.take k))) (fun _ i => n - (intOf i).toNat)
  case atStart => exact ⟨0, s1.size + s2.size + s4.size + s6.size + s7.size + 16 * n, by omega, rfl, by go_num, by omega, rfl⟩
  case round =>
    obtain ⟨k, T, hk, rfl, rfl, hTb, HT⟩ := hrel
    by_cases hlt : k < n
    · by_cases hbig : 1048576 < T
      · go_wp2
        go_ret
        exact ⟨rfl, Below.refl _ _⟩
      obtain ⟨yb, yo, rfl, hc, _⟩ := HS.out.at hlt
      have hs := slen_take_succ ss k (by rw [HS.out.1]; exact hlt)
      have hs2 := slen_take_le ss (k + 1)
      have HT2 : Hid (T + (nm ss k).size = s1.size + s2.size + s4.size + s6.size + s7.size + 16 * n + slen (ss.take (k + 1))) := by have := HT.out; show _ = _; omega
      have hsz : (nm ss k).size ≤ 1048576 := by omega
      clear hs hs2
      generalize nm ss k = s at *
      go_wp2
      go_round
      case rel => exact ⟨k + 1, T + s.size, by omega, by go_num, by go_num, by omega, HT2⟩
      case measure => simp [intOf]; omega
    · obtain rfl : k = n := by omega
      by_cases hbig : 1048576 < T
      · go_wp2
        go_ret
        exact ⟨rfl, Below.refl _ _⟩
      have HZZ : Hid (s1.size + s2.size + s4.size + s6.size + s7.size + 16 * k + slen ss ≤ 1048576) := by
        have h1 := HT.out
        rw [List.take_of_length_le (by rw [HS.out.1]; exact Nat.le_refl _)] at h1
        show _ ≤ _
        omega
      have HPSM : Hid (s1.size + s2.size + psum (pthOf s4 ss) (k + 1) ≤ 2097152) := by
        have h1 := psum_pthOf s4 ss k (by rw [HS.out.1]; exact Nat.le_refl _)
        rw [List.take_of_length_le (by rw [HS.out.1]; exact Nat.le_refl _)] at h1
        have h2 := HZZ.out
        show _ ≤ _
        omega
      have HMAP : Hid ((List.range (k + 1)).map (pthOf s4 ss) = s4 :: ss) := by
        have h1 := pthOf_map s4 ss
        rw [HS.out.1] at h1
        exact h1
      clear HT hlt
      by_cases ha : a = none
      · have han : a.isNone = true := by rw [ha]; rfl
        have HS5 := HS
        have HB5 : Hid (Below w.heap.size w w) := Below.refl _ _
        clear ha
        go_upto_region 18 with fail
        cases b0 with
        | true =>
          go_wp2_with fail
          refine (zztext_nil _).mono ?_
          rintro e w8 ⟨rfl, rfl⟩
          go_wp2
          go_ret
          exact ⟨rfl, HB5.out⟩
        | false =>
          go_wp2
          go_loopw [22, 23] (fun v22 v23 wr => ∃ (t : Nat) (u : Option Addr) (q : Int), t ≤ k ∧ q = (t : Int) - 1 ∧ v23 = .int .i64 q ∧ v22 = .pointer u ∧ Hid (u = upt w.heap.size k t) ∧ Hid (Ch w wr w.heap.size k t s6 s7 b8 ss)) (fun _ v23 _ => (intOf v23 + 1).toNat)
          case atStart => exact ⟨k, none, _, Nat.le_refl _, rfl, rfl, rfl, upt_top _ _, Ch.start _ _ _ _ _ _⟩
          case round =>
            obtain ⟨t, u, q, ht, hq, rfl, rfl, HU, HCH⟩ := hrel
            cases t with
            | succ t0 =>
              obtain rfl : q = (t0 : Int) := by omega
              clear hq
              obtain ⟨yb, yo, rfl, c, hyl⟩ := HS5.out.at (show t0 < k from ht)
              have c' : wr.cell? ⟨yb, yo + t0, none⟩ = some (.string (nm ss t0)) := (HCH.out.bel.cell (p := ⟨yb, yo + t0, none⟩) hyl).trans c
              have itn : (t0 : Int) < k := by omega
              have HST : Hid (Ch w (wr.alloc (.cells #[.string s6, .string s7, .bool b8, .string (nm ss t0), .pointer u] 40)) w.heap.size k t0 s6 s7 b8 ss ∧ some ⟨wr.heap.size, 0, none⟩ = upt w.heap.size k t0) := by
                rw [HU.out]; exact HCH.out.step ht
              clear c
              generalize nm ss t0 = tx at *
              go_wp2_with fail
              refine (make_any s6 s7 tx b8 u wr).mono ?_
              rintro e w8 ⟨rfl, rfl⟩
              go_wp2
              go_roundw
              case rel => exact ⟨t0, _, (t0 : Int) - 1, by omega, rfl, by go_num, rfl, HST.out.2, HST.out.1⟩
              case measure => simp [intOf]
            | zero =>
              obtain rfl : q = -1 := by omega
              clear hq
              have hsz := HCH.out.sz
              have HND := nodes_of (s1 := s1) (s2 := s2) (s4 := s4) (b3 := b3) HCH.out HS5.out.1
              have hC7 := zztext_any k _ _ s1 s2 b3 _ HND (by omega) HPSM.out (fun j => pthOf_size s4 ss j 1048576 (by omega) hsl)
              try dsimp only at hC7
              rw [← hsz, HMAP.out] at hC7
              rw [← HU.out] at hC7
              have HC7 : Hid (Calls Try.prog 7 #[.pointer (some ⟨wr.heap.size, 0, none⟩)] (wr.alloc (.cells #[.string s1, .string s2, .bool b3, .string s4, .pointer u] 40)) fun e w' => e = .returned (.string ⟨(preT s1 s2 b3 ++ chain (s4 :: ss)).toArray⟩) ∧ Below (wr.alloc (.cells #[.string s1, .string s2, .bool b3, .string s4, .pointer u] 40)).heap.size (wr.alloc (.cells #[.string s1, .string s2, .bool b3, .string s4, .pointer u] 40)) w') := hC7
              have HB6 : Hid (Below w.heap.size w (wr.alloc (.cells #[.string s1, .string s2, .bool b3, .string s4, .pointer u] 40))) := (HB5.out.trans (HCH.out.bel.mono HB5.out.size)).alloc (by have := HB5.out.size; omega) _
              have HS6 : Hid (Strs (wr.alloc (.cells #[.string s1, .string s2, .bool b3, .string s4, .pointer u] 40)) a k cap ss) := HS5.out.later (HCH.out.bel.alloc (by omega) _) (Nat.le_refl _)
              clear hC7 HND hsz HCH HU
              go_wp2_with fail
              refine (make_any s1 s2 s4 b3 u wr).mono ?_
              rintro e w8 ⟨rfl, rfl⟩
              go_wp2_with fail
              refine HC7.out.mono ?_
              rintro e w10 ⟨rfl, hb10⟩
              have HB10 : Hid (Below w.heap.size w w10) := HB6.out.trans (hb10.mono HB6.out.size)
              have HS10 : Hid (Strs w10 a k cap ss) := HS6.out.later hb10 (Nat.le_refl _)
              clear hb10 HB6 HS6 HC7
              generalize hTX : (⟨(preT s1 s2 b3 ++ chain (s4 :: ss)).toArray⟩ : ByteArray) = TX0
              have HTX : Hid ((⟨(preT s1 s2 b3 ++ chain (s4 :: ss)).toArray⟩ : ByteArray) = TX0) := hTX
              clear hTX
              go_wp2_with (first | (at_make; refine wpList_make_own _ rfl _ _ 22 rfl w10.heap.size 9 i9 (.string ByteArray.empty) 1 Try.underlying22 hi9 h90 h91 .i64 .i64 _ (k + 1) rfl rfl (by omega) (by rw [h92]; omega) (by unfold maxLen; omega) (Nat.le_refl _) ?_; intro w11 hown11 hg11) | (at_builtin; refine wpList_append_own_at _ rfl (.tmp 143) (.tmp 145) 22 rfl w10.heap.size 9 i9 (.string ByteArray.empty) 1 16 Try.underlying22 hi9 h90 h91 h92 rfl Nat.one_pos _ 0 [] rfl (hown11.alloc _) ⟨w11.heap.size, 0, none⟩ 1 1 [.string s4] rfl rfl (cell_one_new _ _ _) (one_str s4) (by unfold maxLen; omega) (by omega) (Nat.le_trans hg11.size (by simp)) ?_; intro v12 w12 hown12 hg12 hnil12 hloc12; obtain ⟨a12, c12, rfl⟩ := own_shape hown12))
              have HO12 : Hid (w12.ownsRow w10.heap.size 9 1 (.slice a12 1 c12) 1 (texts (s4 :: ss.take 0))) := hown12
              have HB12 : Hid (Below w10.heap.size w10 w12) := (((Below.refl _ _).grown hg11 (Nat.le_refl _) (fun k h => by simp at h)).alloc hg11.size _).grown hg12 (Nat.le_trans hg11.size (by simp)) (fun k h => own_ge hown11 k h)
              clear hown11 hg11 hown12 hg12 hnil12 hloc12
              go_wp2
              go_loopw [26, 27] (fun v26 v27 wr => ∃ (m : Nat) (a4 : Option Addr) (c4 : Nat), m ≤ k ∧ v27 = .int .i64 m ∧ v26 = .slice a4 (m + 1) c4 ∧ Hid (wr.ownsRow w10.heap.size 9 1 (.slice a4 (m + 1) c4) (m + 1) (texts (s4 :: ss.take m))) ∧ Hid (Below w10.heap.size w10 wr)) (fun _ v27 _ => k - (intOf v27).toNat)
              case atStart => exact ⟨0, a12, c12, Nat.zero_le _, rfl, rfl, HO12, HB12⟩
              case round =>
                clear HO12 HB12
                obtain ⟨m, a4, c4, hm, rfl, rfl, HO, HBR⟩ := hrel
                by_cases hml : m < k
                · obtain ⟨yb, yo, rfl, c, hyl⟩ := HS10.out.at hml
                  have c' : wr.cell? ⟨yb, yo + m, none⟩ = some (.string (nm ss m)) := (HBR.out.cell (p := ⟨yb, yo + m, none⟩) hyl).trans c
                  have imn : (m : Int) < k := by omega
                  have HTS : Hid (texts (s4 :: ss.take m) ++ [.string (nm ss m)] = texts (s4 :: ss.take (m + 1))) := texts_snoc s4 ss m (by rw [HS10.out.1]; exact hml)
                  have hyw : yb < wr.heap.size := Nat.lt_of_lt_of_le hyl HBR.out.size
                  clear c
                  generalize nm ss m = tx at *
                  go_wp2_with (at_builtin; refine wpList_append_own_at _ rfl (.tmp 153) (.tmp 158) 22 rfl w10.heap.size 9 i9 (.string ByteArray.empty) 1 16 Try.underlying22 hi9 h90 h91 h92 rfl Nat.one_pos _ (m + 1) (texts (s4 :: ss.take m)) rfl (HO.out.alloc _) ⟨wr.heap.size, 0, none⟩ 1 1 [.string tx] rfl rfl (cell_one_new _ _ _) (one_str tx) (by unfold maxLen; omega) (by omega) (Nat.le_trans HBR.out.size (by simp)) ?_; intro v13 w13 hown13 hg13 hnil13 hloc13; obtain ⟨a13, c13, rfl⟩ := own_shape hown13)
                  go_roundw
                  case rel => exact ⟨m + 1, a13, c13, by omega, by go_num, rfl, by rw [HTS.out] at hown13; exact hown13, (HBR.out.alloc HBR.out.size _).grown hg13 (Nat.le_trans HBR.out.size (by simp)) (fun k h => own_ge HO.out k h)⟩
                  case measure => simp [intOf]; omega
                · obtain rfl : m = k := by omega
                  have hful : ss.take m = ss := List.take_of_length_le (by rw [HS10.out.1]; exact Nat.le_refl _)
                  have HO2 : Hid (wr.ownsRow w10.heap.size 9 1 (.slice a4 (m + 1) c4) (m + 1) (texts (s4 :: ss))) := by have := HO.out; rw [hful] at this; exact this
                  clear HO hful
                  have HSN0 := strs_row HO2.out (by simp [HS10.out.1])
                  have HLN : Hid (slen (s4 :: ss) + (s4 :: ss).length ≤ 4194304) := by
                    have h1 := HZZ.out
                    have h2 := HS10.out.1
                    show _ ≤ _
                    simp [slen]; omega
                  have HCL : Hid ((chain (s4 :: ss)).length ≤ 4194304) := Nat.le_trans (chain_length _) HLN.out
                  have HSN : Hid (∀ W, Below wr.heap.size wr W → Strs W a4 (m + 1) c4 (s4 :: ss)) := fun W hW => HSN0.1.later hW (Nat.le_refl _)
                  have hmc : m + 1 ≤ c4 := HSN0.2.1
                  have hc4 : c4 ≤ 9223372036854775807 := HSN0.2.2
                  have HBW : Hid (Below w.heap.size w wr) := HB10.out.trans (HBR.out.mono HB10.out.size)
                  clear HSN0 HO2 HBR
                  by_cases hs1 : s1.toList.isEmpty = true
                  · have e1 := (empty_iff s1).1 hs1
                    have HTX2 : Hid ((⟨([] ++ chain (s4 :: ss)).toArray⟩ : ByteArray) = TX0) := by
                      have := HTX.out
                      rw [e1, preT_nil] at this; exact this
                    clear e1
                    go_wp2_with fail
                    refine (chain_any (s4 :: ss) (by simp) a4 (m + 1) c4 wr (HSN.out _ (Below.refl _ _)) hmc HLN.out hc4).mono ?_
                    rintro e w14 ⟨v9, rfl, HB9, hb14⟩
                    obtain ⟨a9, c9, hv9⟩ := HB9.out.shape
                    generalize chain (s4 :: ss) = CH at *
                    generalize hn9 : CH.length = n9 at hv9
                    subst hv9
                    have HL9 : Hid (([] : List UInt8).length + CH.length ≤ 140737488355328) := by have := HCL.out; show _ ≤ _; simp; omega
                    go_wp2_with (at_builtin; refine wpList_app_buf rfl (.tmp 175) (.tmp 177) rfl (Buf.nil w14 wr.heap.size) HB9.out rfl rfl HL9.out hb14.size ?_; intro a15 n15 c15 w15 hb15 hg15; have hcv := buf_conv hb15; rw [HTX2.out] at hcv; have HB15 : Hid (Below wr.heap.size wr w15) := hb14.grown hg15 hb14.size (fun k h => by simp [Value.ownBlock] at h))
                    go_ret
                    exact ⟨rfl, HBW.out.trans (HB15.out.mono HBW.out.size)⟩
                  · have hs1' : s1.toList.isEmpty = false := by simpa using hs1
                    have HPT := preT_some (s2 := s2) (b := b3) hs1'
                    clear hs1
                    have HZ1 : Hid (s1.size ≤ 1048576 ∧ s2.size ≤ 1048576) := by have := HZZ.out; exact ⟨by omega, by omega⟩
                    have hl1 : ([] : List UInt8).length + s1.size ≤ 140737488355328 := by simp; omega
                    have hl2 : ([] ++ s1.data.toList : List UInt8).length + [(58 : UInt8)].length ≤ 140737488355328 := by simp; omega
                    cases b3 with
                    | false =>
                      have HTX2 : Hid ((⟨([] ++ s1.data.toList ++ [58] ++ chain (s4 :: ss)).toArray⟩ : ByteArray) = TX0) := by
                        have := HTX.out
                        rw [HPT] at this; show _ = _; simpa using this
                      go_wp2_with (first | (at_builtin; refine wpList_text_buf rfl (.tmp 162) (.tmp 163) rfl (Buf.nil wr wr.heap.size) rfl s1 rfl hl1 (Nat.le_refl _) ?_; intro a15 n15 c15 w15 hb15 hg15; have hbl15 : Below wr.heap.size wr w15 := (Below.refl _ _).grown hg15 (Nat.le_refl _) (fun k h => by simp [Value.ownBlock] at h)) | (at_builtin; refine wpList_app_buf rfl (.tmp 165) (.tmp 166) rfl (hb15.alloc _) (buf_new1 w15) rfl rfl hl2 (Nat.le_trans hbl15.size (by simp)) ?_; intro a16 n16 c16 w16 hb16 hg16; have hbl16 : Below wr.heap.size wr w16 := (hbl15.alloc hbl15.size _).grown hg16 (Nat.le_trans hbl15.size (by simp)) (fun k h => hb15.ge k h)))
                      refine (chain_any (s4 :: ss) (by simp) a4 (m + 1) c4 w16 (HSN.out _ hbl16) hmc HLN.out hc4).mono ?_
                      rintro e w17 ⟨v9, rfl, HB9, hb17⟩
                      obtain ⟨a9, c9, hv9⟩ := HB9.out.shape
                      generalize chain (s4 :: ss) = CH at *
                      generalize hn9 : CH.length = n9 at hv9
                      subst hv9
                      have HL9 : Hid (([] ++ s1.data.toList ++ [58] : List UInt8).length + CH.length ≤ 140737488355328) := by have := HCL.out; show _ ≤ _; simp; omega
                      go_wp2_with (at_builtin; refine wpList_app_buf rfl (.tmp 175) (.tmp 177) rfl (hb16.later hb17) HB9.out rfl rfl HL9.out (Nat.le_trans hbl16.size hb17.size) ?_; intro a18 n18 c18 w18 hb18 hg18; have hcv := buf_conv hb18; rw [HTX2.out] at hcv; have HB18 : Hid (Below wr.heap.size wr w18) := (hbl16.trans (hb17.mono hbl16.size)).grown hg18 (Nat.le_trans hbl16.size hb17.size) (fun k h => hb16.ge k h))
                      go_ret
                      exact ⟨rfl, HBW.out.trans (HB18.out.mono HBW.out.size)⟩
                    | true =>
                      have HTX2 : Hid ((⟨([] ++ s1.data.toList ++ [58] ++ [47, 47] ++ s2.data.toList ++ chain (s4 :: ss)).toArray⟩ : ByteArray) = TX0) := by
                        have := HTX.out
                        rw [HPT] at this; show _ = _; simpa using this
                      have hl3 : ([] ++ s1.data.toList ++ [58] : List UInt8).length + [(47 : UInt8), 47].length ≤ 140737488355328 := by simp; omega
                      have hl4 : ([] ++ s1.data.toList ++ [58] ++ [47, 47] : List UInt8).length + s2.size ≤ 140737488355328 := by simp; omega
                      go_wp2_with (first | (at_builtin; refine wpList_text_buf rfl (.tmp 162) (.tmp 163) rfl (Buf.nil wr wr.heap.size) rfl s1 rfl hl1 (Nat.le_refl _) ?_; intro a15 n15 c15 w15 hb15 hg15; have hbl15 : Below wr.heap.size wr w15 := (Below.refl _ _).grown hg15 (Nat.le_refl _) (fun k h => by simp [Value.ownBlock] at h)) | (at_builtin; refine wpList_app_buf rfl (.tmp 165) (.tmp 166) rfl (hb15.alloc _) (buf_new1 w15) rfl rfl hl2 (Nat.le_trans hbl15.size (by simp)) ?_; intro a16 n16 c16 w16 hb16 hg16; have hbl16 : Below wr.heap.size wr w16 := (hbl15.alloc hbl15.size _).grown hg16 (Nat.le_trans hbl15.size (by simp)) (fun k h => hb15.ge k h)) | (at_builtin; refine wpList_app_buf rfl (.tmp 169) (.tmp 170) rfl (hb16.alloc _) (buf_new2 w16) rfl rfl hl3 (Nat.le_trans hbl16.size (by simp)) ?_; intro a19 n19 c19 w19 hb19 hg19; have hbl19 : Below wr.heap.size wr w19 := (hbl16.alloc hbl16.size _).grown hg19 (Nat.le_trans hbl16.size (by simp)) (fun k h => hb16.ge k h)) | (at_builtin; refine wpList_text_buf rfl (.tmp 172) (.tmp 173) rfl hb19 rfl s2 rfl hl4 hbl19.size ?_; intro a20 n20 c20 w20 hb20 hg20; have hbl20 : Below wr.heap.size wr w20 := hbl19.grown hg20 hbl19.size (fun k h => hb19.ge k h)))
                      refine (chain_any (s4 :: ss) (by simp) a4 (m + 1) c4 w20 (HSN.out _ hbl20) hmc HLN.out hc4).mono ?_
                      rintro e w17 ⟨v9, rfl, HB9, hb17⟩
                      obtain ⟨a9, c9, hv9⟩ := HB9.out.shape
                      generalize chain (s4 :: ss) = CH at *
                      generalize hn9 : CH.length = n9 at hv9
                      subst hv9
                      have HL9 : Hid (([] ++ s1.data.toList ++ [58] ++ [47, 47] ++ s2.data.toList : List UInt8).length + CH.length ≤ 140737488355328) := by have := HCL.out; show _ ≤ _; simp; omega
                      go_wp2_with (at_builtin; refine wpList_app_buf rfl (.tmp 175) (.tmp 177) rfl (hb20.later hb17) HB9.out rfl rfl HL9.out (Nat.le_trans hbl20.size hb17.size) ?_; intro a18 n18 c18 w18 hb18 hg18; have hcv := buf_conv hb18; rw [HTX2.out] at hcv; have HB18 : Hid (Below wr.heap.size wr w18) := (hbl20.trans (hb17.mono hbl20.size)).grown hg18 (Nat.le_trans hbl20.size hb17.size) (fun k h => hb20.ge k h))
                      go_ret
                      exact ⟨rfl, HBW.out.trans (HB18.out.mono HBW.out.size)⟩
      · obtain ⟨x, hx⟩ : ∃ x, a = some x := by
          cases a with
          | none => exact absurd rfl ha
          | some x => exact ⟨x, rfl⟩
        have han : a.isNone = false := by rw [hx]; rfl
        have hmk := make_names k (by omega) w
        obtain ⟨W2, hcp, hrow, hB2⟩ := copied x k cap ss w HS.out.1 (fun j hj => HS.out.2.2 x hx j (by rw [← HS.out.1]; exact hj))
        rw [← hx] at hcp
        have HS5 : Hid (Strs W2 (some ⟨w.heap.size, 0, none⟩) k k ss) := hrow
        have HB5 : Hid (Below w.heap.size w W2) := hB2
        clear hrow hB2 ha hx
        go_upto_region 18 with fail
        obtain ⟨a5, ha5⟩ : ∃ a5, a5 = some (⟨w.heap.size, 0, none⟩ : Addr) := ⟨_, rfl⟩
        rw [← ha5] at HS5 ⊢
        clear ha5 hcp hmk
        cases b0 with
        | true =>
          go_wp2_with fail
          refine (zztext_nil _).mono ?_
          rintro e w8 ⟨rfl, rfl⟩
          go_wp2
          go_ret
          exact ⟨rfl, HB5.out⟩
        | false =>
          go_wp2
          go_loopw [22, 23] (fun v22 v23 wr => ∃ (t : Nat) (u : Option Addr) (q : Int), t ≤ k ∧ q = (t : Int) - 1 ∧ v23 = .int .i64 q ∧ v22 = .pointer u ∧ Hid (u = upt W2.heap.size k t) ∧ Hid (Ch W2 wr W2.heap.size k t s6 s7 b8 ss)) (fun _ v23 _ => (intOf v23 + 1).toNat)
          case atStart => exact ⟨k, none, _, Nat.le_refl _, rfl, rfl, rfl, upt_top _ _, Ch.start _ _ _ _ _ _⟩
          case round =>
            obtain ⟨t, u, q, ht, hq, rfl, rfl, HU, HCH⟩ := hrel
            cases t with
            | succ t0 =>
              obtain rfl : q = (t0 : Int) := by omega
              clear hq
              obtain ⟨yb, yo, rfl, c, hyl⟩ := HS5.out.at (show t0 < k from ht)
              have c' : wr.cell? ⟨yb, yo + t0, none⟩ = some (.string (nm ss t0)) := (HCH.out.bel.cell (p := ⟨yb, yo + t0, none⟩) hyl).trans c
              have itn : (t0 : Int) < k := by omega
              have HST : Hid (Ch W2 (wr.alloc (.cells #[.string s6, .string s7, .bool b8, .string (nm ss t0), .pointer u] 40)) W2.heap.size k t0 s6 s7 b8 ss ∧ some ⟨wr.heap.size, 0, none⟩ = upt W2.heap.size k t0) := by
                rw [HU.out]; exact HCH.out.step ht
              clear c
              generalize nm ss t0 = tx at *
              go_wp2_with fail
              refine (make_any s6 s7 tx b8 u wr).mono ?_
              rintro e w8 ⟨rfl, rfl⟩
              go_wp2
              go_roundw
              case rel => exact ⟨t0, _, (t0 : Int) - 1, by omega, rfl, by go_num, rfl, HST.out.2, HST.out.1⟩
              case measure => simp [intOf]
            | zero =>
              obtain rfl : q = -1 := by omega
              clear hq
              have hsz := HCH.out.sz
              have HND := nodes_of (s1 := s1) (s2 := s2) (s4 := s4) (b3 := b3) HCH.out HS5.out.1
              have hC7 := zztext_any k _ _ s1 s2 b3 _ HND (by omega) HPSM.out (fun j => pthOf_size s4 ss j 1048576 (by omega) hsl)
              try dsimp only at hC7
              rw [← hsz, HMAP.out] at hC7
              rw [← HU.out] at hC7
              have HC7 : Hid (Calls Try.prog 7 #[.pointer (some ⟨wr.heap.size, 0, none⟩)] (wr.alloc (.cells #[.string s1, .string s2, .bool b3, .string s4, .pointer u] 40)) fun e w' => e = .returned (.string ⟨(preT s1 s2 b3 ++ chain (s4 :: ss)).toArray⟩) ∧ Below (wr.alloc (.cells #[.string s1, .string s2, .bool b3, .string s4, .pointer u] 40)).heap.size (wr.alloc (.cells #[.string s1, .string s2, .bool b3, .string s4, .pointer u] 40)) w') := hC7
              have HB6 : Hid (Below w.heap.size w (wr.alloc (.cells #[.string s1, .string s2, .bool b3, .string s4, .pointer u] 40))) := (HB5.out.trans (HCH.out.bel.mono HB5.out.size)).alloc (by have := HB5.out.size; omega) _
              have HS6 : Hid (Strs (wr.alloc (.cells #[.string s1, .string s2, .bool b3, .string s4, .pointer u] 40)) a5 k k ss) := HS5.out.later (HCH.out.bel.alloc (by omega) _) (Nat.le_refl _)
              clear hC7 HND hsz HCH HU
              go_wp2_with fail
              refine (make_any s1 s2 s4 b3 u wr).mono ?_
              rintro e w8 ⟨rfl, rfl⟩
              go_wp2_with fail
              refine HC7.out.mono ?_
              rintro e w10 ⟨rfl, hb10⟩
              have HB10 : Hid (Below w.heap.size w w10) := HB6.out.trans (hb10.mono HB6.out.size)
              have HS10 : Hid (Strs w10 a5 k k ss) := HS6.out.later hb10 (Nat.le_refl _)
              clear hb10 HB6 HS6 HC7
              generalize hTX : (⟨(preT s1 s2 b3 ++ chain (s4 :: ss)).toArray⟩ : ByteArray) = TX0
              have HTX : Hid ((⟨(preT s1 s2 b3 ++ chain (s4 :: ss)).toArray⟩ : ByteArray) = TX0) := hTX
              clear hTX
              go_wp2_with (first | (at_make; refine wpList_make_own _ rfl _ _ 22 rfl w10.heap.size 9 i9 (.string ByteArray.empty) 1 Try.underlying22 hi9 h90 h91 .i64 .i64 _ (k + 1) rfl rfl (by omega) (by rw [h92]; omega) (by unfold maxLen; omega) (Nat.le_refl _) ?_; intro w11 hown11 hg11) | (at_builtin; refine wpList_append_own_at _ rfl (.tmp 143) (.tmp 145) 22 rfl w10.heap.size 9 i9 (.string ByteArray.empty) 1 16 Try.underlying22 hi9 h90 h91 h92 rfl Nat.one_pos _ 0 [] rfl (hown11.alloc _) ⟨w11.heap.size, 0, none⟩ 1 1 [.string s4] rfl rfl (cell_one_new _ _ _) (one_str s4) (by unfold maxLen; omega) (by omega) (Nat.le_trans hg11.size (by simp)) ?_; intro v12 w12 hown12 hg12 hnil12 hloc12; obtain ⟨a12, c12, rfl⟩ := own_shape hown12))
              have HO12 : Hid (w12.ownsRow w10.heap.size 9 1 (.slice a12 1 c12) 1 (texts (s4 :: ss.take 0))) := hown12
              have HB12 : Hid (Below w10.heap.size w10 w12) := (((Below.refl _ _).grown hg11 (Nat.le_refl _) (fun k h => by simp at h)).alloc hg11.size _).grown hg12 (Nat.le_trans hg11.size (by simp)) (fun k h => own_ge hown11 k h)
              clear hown11 hg11 hown12 hg12 hnil12 hloc12
              go_wp2
              go_loopw [26, 27] (fun v26 v27 wr => ∃ (m : Nat) (a4 : Option Addr) (c4 : Nat), m ≤ k ∧ v27 = .int .i64 m ∧ v26 = .slice a4 (m + 1) c4 ∧ Hid (wr.ownsRow w10.heap.size 9 1 (.slice a4 (m + 1) c4) (m + 1) (texts (s4 :: ss.take m))) ∧ Hid (Below w10.heap.size w10 wr)) (fun _ v27 _ => k - (intOf v27).toNat)
              case atStart => exact ⟨0, a12, c12, Nat.zero_le _, rfl, rfl, HO12, HB12⟩
              case round =>
                clear HO12 HB12
                obtain ⟨m, a4, c4, hm, rfl, rfl, HO, HBR⟩ := hrel
                by_cases hml : m < k
                · obtain ⟨yb, yo, rfl, c, hyl⟩ := HS10.out.at hml
                  have c' : wr.cell? ⟨yb, yo + m, none⟩ = some (.string (nm ss m)) := (HBR.out.cell (p := ⟨yb, yo + m, none⟩) hyl).trans c
                  have imn : (m : Int) < k := by omega
                  have HTS : Hid (texts (s4 :: ss.take m) ++ [.string (nm ss m)] = texts (s4 :: ss.take (m + 1))) := texts_snoc s4 ss m (by rw [HS10.out.1]; exact hml)
                  have hyw : yb < wr.heap.size := Nat.lt_of_lt_of_le hyl HBR.out.size
                  clear c
                  generalize nm ss m = tx at *
                  go_wp2_with (at_builtin; refine wpList_append_own_at _ rfl (.tmp 153) (.tmp 158) 22 rfl w10.heap.size 9 i9 (.string ByteArray.empty) 1 16 Try.underlying22 hi9 h90 h91 h92 rfl Nat.one_pos _ (m + 1) (texts (s4 :: ss.take m)) rfl (HO.out.alloc _) ⟨wr.heap.size, 0, none⟩ 1 1 [.string tx] rfl rfl (cell_one_new _ _ _) (one_str tx) (by unfold maxLen; omega) (by omega) (Nat.le_trans HBR.out.size (by simp)) ?_; intro v13 w13 hown13 hg13 hnil13 hloc13; obtain ⟨a13, c13, rfl⟩ := own_shape hown13)
                  go_roundw
                  case rel => exact ⟨m + 1, a13, c13, by omega, by go_num, rfl, by rw [HTS.out] at hown13; exact hown13, (HBR.out.alloc HBR.out.size _).grown hg13 (Nat.le_trans HBR.out.size (by simp)) (fun k h => own_ge HO.out k h)⟩
                  case measure => simp [intOf]; omega
                · obtain rfl : m = k := by omega
                  have hful : ss.take m = ss := List.take_of_length_le (by rw [HS10.out.1]; exact Nat.le_refl _)
                  have HO2 : Hid (wr.ownsRow w10.heap.size 9 1 (.slice a4 (m + 1) c4) (m + 1) (texts (s4 :: ss))) := by have := HO.out; rw [hful] at this; exact this
                  clear HO hful
                  have HSN0 := strs_row HO2.out (by simp [HS10.out.1])
                  have HLN : Hid (slen (s4 :: ss) + (s4 :: ss).length ≤ 4194304) := by
                    have h1 := HZZ.out
                    have h2 := HS10.out.1
                    show _ ≤ _
                    simp [slen]; omega
                  have HCL : Hid ((chain (s4 :: ss)).length ≤ 4194304) := Nat.le_trans (chain_length _) HLN.out
                  have HSN : Hid (∀ W, Below wr.heap.size wr W → Strs W a4 (m + 1) c4 (s4 :: ss)) := fun W hW => HSN0.1.later hW (Nat.le_refl _)
                  have hmc : m + 1 ≤ c4 := HSN0.2.1
                  have hc4 : c4 ≤ 9223372036854775807 := HSN0.2.2
                  have HBW : Hid (Below w.heap.size w wr) := HB10.out.trans (HBR.out.mono HB10.out.size)
                  clear HSN0 HO2 HBR
                  by_cases hs1 : s1.toList.isEmpty = true
                  · have e1 := (empty_iff s1).1 hs1
                    have HTX2 : Hid ((⟨([] ++ chain (s4 :: ss)).toArray⟩ : ByteArray) = TX0) := by
                      have := HTX.out
                      rw [e1, preT_nil] at this; exact this
                    clear e1
                    go_wp2_with fail
                    refine (chain_any (s4 :: ss) (by simp) a4 (m + 1) c4 wr (HSN.out _ (Below.refl _ _)) hmc HLN.out hc4).mono ?_
                    rintro e w14 ⟨v9, rfl, HB9, hb14⟩
                    obtain ⟨a9, c9, hv9⟩ := HB9.out.shape
                    generalize chain (s4 :: ss) = CH at *
                    generalize hn9 : CH.length = n9 at hv9
                    subst hv9
                    have HL9 : Hid (([] : List UInt8).length + CH.length ≤ 140737488355328) := by have := HCL.out; show _ ≤ _; simp; omega
                    go_wp2_with (at_builtin; refine wpList_app_buf rfl (.tmp 175) (.tmp 177) rfl (Buf.nil w14 wr.heap.size) HB9.out rfl rfl HL9.out hb14.size ?_; intro a15 n15 c15 w15 hb15 hg15; have hcv := buf_conv hb15; rw [HTX2.out] at hcv; have HB15 : Hid (Below wr.heap.size wr w15) := hb14.grown hg15 hb14.size (fun k h => by simp [Value.ownBlock] at h))
                    go_ret
                    exact ⟨rfl, HBW.out.trans (HB15.out.mono HBW.out.size)⟩
                  · have hs1' : s1.toList.isEmpty = false := by simpa using hs1
                    have HPT := preT_some (s2 := s2) (b := b3) hs1'
                    clear hs1
                    have HZ1 : Hid (s1.size ≤ 1048576 ∧ s2.size ≤ 1048576) := by have := HZZ.out; exact ⟨by omega, by omega⟩
                    have hl1 : ([] : List UInt8).length + s1.size ≤ 140737488355328 := by simp; omega
                    have hl2 : ([] ++ s1.data.toList : List UInt8).length + [(58 : UInt8)].length ≤ 140737488355328 := by simp; omega
                    cases b3 with
                    | false =>
                      have HTX2 : Hid ((⟨([] ++ s1.data.toList ++ [58] ++ chain (s4 :: ss)).toArray⟩ : ByteArray) = TX0) := by
                        have := HTX.out
                        rw [HPT] at this; show _ = _; simpa using this
                      go_wp2_with (first | (at_builtin; refine wpList_text_buf rfl (.tmp 162) (.tmp 163) rfl (Buf.nil wr wr.heap.size) rfl s1 rfl hl1 (Nat.le_refl _) ?_; intro a15 n15 c15 w15 hb15 hg15; have hbl15 : Below wr.heap.size wr w15 := (Below.refl _ _).grown hg15 (Nat.le_refl _) (fun k h => by simp [Value.ownBlock] at h)) | (at_builtin; refine wpList_app_buf rfl (.tmp 165) (.tmp 166) rfl (hb15.alloc _) (buf_new1 w15) rfl rfl hl2 (Nat.le_trans hbl15.size (by simp)) ?_; intro a16 n16 c16 w16 hb16 hg16; have hbl16 : Below wr.heap.size wr w16 := (hbl15.alloc hbl15.size _).grown hg16 (Nat.le_trans hbl15.size (by simp)) (fun k h => hb15.ge k h)))
                      refine (chain_any (s4 :: ss) (by simp) a4 (m + 1) c4 w16 (HSN.out _ hbl16) hmc HLN.out hc4).mono ?_
                      rintro e w17 ⟨v9, rfl, HB9, hb17⟩
                      obtain ⟨a9, c9, hv9⟩ := HB9.out.shape
                      generalize chain (s4 :: ss) = CH at *
                      generalize hn9 : CH.length = n9 at hv9
                      subst hv9
                      have HL9 : Hid (([] ++ s1.data.toList ++ [58] : List UInt8).length + CH.length ≤ 140737488355328) := by have := HCL.out; show _ ≤ _; simp; omega
                      go_wp2_with (at_builtin; refine wpList_app_buf rfl (.tmp 175) (.tmp 177) rfl (hb16.later hb17) HB9.out rfl rfl HL9.out (Nat.le_trans hbl16.size hb17.size) ?_; intro a18 n18 c18 w18 hb18 hg18; have hcv := buf_conv hb18; rw [HTX2.out] at hcv; have HB18 : Hid (Below wr.heap.size wr w18) := (hbl16.trans (hb17.mono hbl16.size)).grown hg18 (Nat.le_trans hbl16.size hb17.size) (fun k h => hb16.ge k h))
                      go_ret
                      exact ⟨rfl, HBW.out.trans (HB18.out.mono HBW.out.size)⟩
                    | true =>
                      have HTX2 : Hid ((⟨([] ++ s1.data.toList ++ [58] ++ [47, 47] ++ s2.data.toList ++ chain (s4 :: ss)).toArray⟩ : ByteArray) = TX0) := by
                        have := HTX.out
                        rw [HPT] at this; show _ = _; simpa using this
                      have hl3 : ([] ++ s1.data.toList ++ [58] : List UInt8).length + [(47 : UInt8), 47].length ≤ 140737488355328 := by simp; omega
                      have hl4 : ([] ++ s1.data.toList ++ [58] ++ [47, 47] : List UInt8).length + s2.size ≤ 140737488355328 := by simp; omega
                      go_wp2_with (first | (at_builtin; refine wpList_text_buf rfl (.tmp 162) (.tmp 163) rfl (Buf.nil wr wr.heap.size) rfl s1 rfl hl1 (Nat.le_refl _) ?_; intro a15 n15 c15 w15 hb15 hg15; have hbl15 : Below wr.heap.size wr w15 := (Below.refl _ _).grown hg15 (Nat.le_refl _) (fun k h => by simp [Value.ownBlock] at h)) | (at_builtin; refine wpList_app_buf rfl (.tmp 165) (.tmp 166) rfl (hb15.alloc _) (buf_new1 w15) rfl rfl hl2 (Nat.le_trans hbl15.size (by simp)) ?_; intro a16 n16 c16 w16 hb16 hg16; have hbl16 : Below wr.heap.size wr w16 := (hbl15.alloc hbl15.size _).grown hg16 (Nat.le_trans hbl15.size (by simp)) (fun k h => hb15.ge k h)) | (at_builtin; refine wpList_app_buf rfl (.tmp 169) (.tmp 170) rfl (hb16.alloc _) (buf_new2 w16) rfl rfl hl3 (Nat.le_trans hbl16.size (by simp)) ?_; intro a19 n19 c19 w19 hb19 hg19; have hbl19 : Below wr.heap.size wr w19 := (hbl16.alloc hbl16.size _).grown hg19 (Nat.le_trans hbl16.size (by simp)) (fun k h => hb16.ge k h)) | (at_builtin; refine wpList_text_buf rfl (.tmp 172) (.tmp 173) rfl hb19 rfl s2 rfl hl4 hbl19.size ?_; intro a20 n20 c20 w20 hb20 hg20; have hbl20 : Below wr.heap.size wr w20 := hbl19.grown hg20 hbl19.size (fun k h => hb19.ge k h)))
                      refine (chain_any (s4 :: ss) (by simp) a4 (m + 1) c4 w20 (HSN.out _ hbl20) hmc HLN.out hc4).mono ?_
                      rintro e w17 ⟨v9, rfl, HB9, hb17⟩
                      obtain ⟨a9, c9, hv9⟩ := HB9.out.shape
                      generalize chain (s4 :: ss) = CH at *
                      generalize hn9 : CH.length = n9 at hv9
                      subst hv9
                      have HL9 : Hid (([] ++ s1.data.toList ++ [58] ++ [47, 47] ++ s2.data.toList : List UInt8).length + CH.length ≤ 140737488355328) := by have := HCL.out; show _ ≤ _; simp; omega
                      go_wp2_with (at_builtin; refine wpList_app_buf rfl (.tmp 175) (.tmp 177) rfl (hb20.later hb17) HB9.out rfl rfl HL9.out (Nat.le_trans hbl20.size hb17.size) ?_; intro a18 n18 c18 w18 hb18 hg18; have hcv := buf_conv hb18; rw [HTX2.out] at hcv; have HB18 : Hid (Below wr.heap.size wr w18) := (hbl20.trans (hb17.mono hbl20.size)).grown hg18 (Nat.le_trans hbl20.size hb17.size) (fun k h => hb20.ge k h))
                      go_ret
                      exact ⟨rfl, HBW.out.trans (HB18.out.mono HBW.out.size)⟩
end Go.Proofs.Qxb6602852a
