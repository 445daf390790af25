import Derived.Test.Qxb6602852aRound
import Derived.Laws.BytesArg
import Derived.Laws.IdiomStrings
import Derived.Deep.DeepCutAuto
import Derived.Deep.CutRange
namespace Go.Proofs.Qxb6602852a
open Go.RowKit Go.Shelf
set_option linter.unusedVariables false
attribute [local go_sem] Oper.semAt_some

theorem Try.info25 : (Try.prog.info? 25).map (fun i => (i.zero, i.size, i.bytes)) = some (some (.pointer none), 1, 8) := by kernel_rfl

/-- Pointers to the first j nodes. -/
def ptrs (blk : Nat → Nat) (j : Nat) : List Value := (List.range j).map fun t => .pointer (some ⟨blk t, 0, none⟩)
theorem ptrs_succ (blk : Nat → Nat) (j : Nat) : ptrs blk (j + 1) = ptrs blk j ++ [.pointer (some ⟨blk j, 0, none⟩)] := by simp [ptrs, List.range_succ]

theorem rroom1 {j : Nat} (h : j ≤ 65536) : j + 1 ≤ maxLen := by unfold maxLen; omega
theorem rroom2 {j : Nat} (h : j ≤ 65536) : (j + 1) * 8 ≤ 140737488355328 := by omega
theorem one_ptr (a : Option Addr) : ∀ u ∈ [Value.pointer a], u.oneCell' = true := by simp [Value.oneCell']
theorem own_ge {w : World} {B e size n : Nat} {v : Value} {xs : List Value} (h : w.ownsRow B e size v n xs) : ∀ k, v.ownBlock = some k → B ≤ k := by
  intro k hk
  rcases h.2 with ⟨rfl, _⟩ | ⟨g, cap, cur, rfl, hb, _⟩
  · simp [Value.ownBlock] at hk
  · simp [Value.ownBlock] at hk; omega
theorem own_shape {w : World} {B e size n : Nat} {v : Value} {xs : List Value} (h : w.ownsRow B e size v n xs) : ∃ a c, v = .slice a n c := by
  rcases h.2 with ⟨rfl, h0⟩ | ⟨g, cap, cur, rfl, _⟩
  · exact ⟨none, 0, by rw [h0]⟩
  · exact ⟨_, cap, rfl⟩
theorem ptr_app {w wr w' : World} {B j : Nat} {a3 : Option Addr} {c3 : Nat} {v' : Value} {blk : Nat → Nat} {o : Obj} (hO : wr.ownsRow B 25 1 (.slice a3 j c3) j (ptrs blk j)) (hb : Below B w wr) (hB : B ≤ wr.heap.size) (hown : w'.ownsRow B 25 1 v' (j + 1) (ptrs blk j ++ [.pointer (some ⟨blk j, 0, none⟩)])) (hg : (wr.alloc o).grownBy w' (Value.slice a3 j c3).ownBlock) :
    ∃ a4 c4, v' = .slice a4 (j + 1) c4 ∧ Hid (w'.ownsRow B 25 1 v' (j + 1) (ptrs blk (j + 1))) ∧ Hid (Below B w w') := by
  obtain ⟨a4, c4, h4⟩ := own_shape hown
  exact ⟨a4, c4, h4, by rw [ptrs_succ]; exact hown, (hb.alloc hB _).grown hg (Nat.le_trans hB (by simp)) (fun k h => own_ge hO k h)⟩

theorem empty_iff (s : ByteArray) : s.toList.isEmpty = true ↔ s = ByteArray.empty := by
  rw [ByteArray.toList_eq]
  constructor
  · intro h
    have h1 : s.data.toList = [] := by simpa using h
    have h2 : s.data = #[] := by
      apply Array.ext'
      simpa using h1
    cases s
    simp at h2
    rw [h2]; rfl
  · rintro rfl
    rfl
theorem data_inj {s : ByteArray} (h : s.data.toList = []) : s = ByteArray.empty := by
  have h2 : s.data = #[] := by
    apply Array.ext'
    simpa using h
  cases s
  simp at h2
  rw [h2]; rfl
/-- The blocks that the loop reads and does not write. -/
def Sx (Bst Bs : Nat) (a3 : Option Addr) (b : Nat) : Prop := b = Bst ∨ b = Bs ∨ a3 = some ⟨b, 0, none⟩
theorem sok_start {wc : World} {B j Bb Bst c3 : Nat} {a3 : Option Addr} {x v : Value} {xs : List Value} (hX : wc.heap[Bb]? = some (.cells #[v] 27)) (hO : wc.ownsRow B 25 1 (.slice a3 j c3) j xs) (hst : wc.heap[Bst]? = some (.cells #[x] 3)) :
    Sok (wc.alloc (.cells #[.slice a3 j c3] 42)) Bb (Sx Bst wc.heap.size a3) := by
  have hl : ∀ {b : Nat} {o : Obj}, wc.heap[b]? = some o → (wc.alloc (.cells #[.slice a3 j c3] 42)).heap[b]? = some o := fun h => (Below.heap_alloc _ _ _ (Array.getElem?_eq_some_iff.1 h).1).trans h
  rintro b (rfl | rfl | rfl)
  · refine ⟨?_, _, _, _, hl hst, by decide⟩
    rintro rfl
    rw [hst] at hX; cases hX
  · refine ⟨?_, _, _, _, heap_alloc_new _ _, by decide⟩
    intro e
    have := (Array.getElem?_eq_some_iff.1 hX).1
    omega
  · rcases hO.2 with ⟨h0, _⟩ | ⟨g, cap, cur, hv, _, hh, _⟩
    · cases h0
    · cases hv
      refine ⟨?_, _, _, _, hl hh, by decide⟩
      rintro rfl
      rw [hh] at hX; cases hX
theorem ptrs_start {wc : World} {B j c3 : Nat} {a3 : Option Addr} {blk : Nat → Nat} (hO : wc.ownsRow B 25 1 (.slice a3 j c3) j (ptrs blk j)) : (a3 = none → c3 = 0) ∧ Ptrs (wc.alloc (.cells #[.slice a3 j c3] 42)) a3 j blk := by
  rcases hO.2 with ⟨h0, h1⟩ | ⟨g, cap, cur, hv, _, hh, _⟩
  · cases h0
    exact ⟨fun _ => rfl, .inl ⟨rfl, h1⟩⟩
  · cases hv
    refine ⟨(fun h => by cases h), .inr ⟨g, rfl, ?_, fun t ht => ?_⟩⟩
    · have := (Array.getElem?_eq_some_iff.1 hh).1
      simp; omega
    · rw [World.cell?_alloc_past _ _ _ (by have := (Array.getElem?_eq_some_iff.1 hh).1; simpa using this), hO.cellAt t (by omega)]
      simp [ptrs, ht]
theorem kb_put {WS : World} {Bb Bst Bs : Nat} {a3 : Option Addr} (hB : Bs < WS.heap.size) (hS : Sok WS Bb (Sx Bst Bs a3)) : ∀ (W : World) (l : Nat) (o o' : Obj), WS.heap.size ≤ l → W.heap[l]? = some o → o.isCells = false → o.isWalk = false → KB Bs a3 W (W.putObj l o') := by
  intro W l o o' hl _ _ _
  have hne : ∀ b, b ≠ l → (W.putObj l o').heap[b]? = W.heap[b]? := fun b hb => by
    simp [World.putObj, Ne.symm hb]
  refine ⟨hne _ (by omega), fun g hg => hne _ ?_⟩
  obtain ⟨_, cs, t, fr, h, _⟩ := hS g (.inr (.inr hg))
  have := (Array.getElem?_eq_some_iff.1 h).1
  omega
theorem buf_conv {W : World} {B : Nat} {v : Value} {l : List UInt8} (h : Buf W B v l) : (convert 27 9 v).run Try.prog W = .ok (.string ⟨l.toArray⟩) W := by
  rcases h.2 with ⟨rfl, h0⟩ | ⟨g, cap, cur, rfl, _⟩
  · have : l = [] := List.eq_nil_of_length_eq_zero h0
    subst this
    exact run_convert_bytes_nil W 27 5 Try.underlying27 Try.underlying5 0 0 9 Try.underlying9
  · exact run_convert_bytes_back W 27 9 5 ⟨g, 0, none⟩ cap l Try.underlying27 Try.underlying5 Try.underlying9 (fun j hj => by rw [Addr.add_lit, Nat.zero_add]; exact h.cell hj)
theorem own_none (o : Option Nat) : o = none ∨ o ≠ none := by cases o <;> simp
theorem tx_start {w wr w4 : World} {B k : Nat} {v : Value} (hb : Below B w wr) (hown : w4.ownsRow B 5 1 v 0 []) (hg : wr.grownBy w4 none) (hB : B ≤ wr.heap.size) : TX w (w4.alloc (.cells #[v] 27)) B w4.heap.size v v [] := by
  have h1 : Below B w w4 := hb.grown hg hB (fun k h => by simp at h)
  exact ⟨h1.alloc (Nat.le_trans hB hg.size) _, heap_alloc_new _ _, Buf.alloc (show Buf w4 B v [] from hown) _, Nat.le_trans hB hg.size⟩

set_option maxRecDepth 100000 in
set_option maxHeartbeats 2000000 in
theorem text_any (k : Nat) (blk : Nat → Nat) (pth : Nat → ByteArray) (s au : ByteArray) (h : Bool) (w : World) (hN : Nodes w k blk pth s au h) (hk : k ≤ 65536) (hz : s.size + au.size + psum pth (k + 1) ≤ 2097152) (hp : ∀ j, (pth j).size ≤ 1048576) :
    Calls Try.prog 18 #[.pointer (some ⟨blk 0, 0, none⟩)] w fun e w' => e = .returned (.string ⟨(preT s au h ++ chain ((List.range (k + 1)).map pth)).toArray⟩) ∧ Below w.heap.size w w' := by
  obtain ⟨i5, hi5, h50, h51, h52⟩ := info_parts Try.info5
  obtain ⟨i25, hi25, h250, h251, h252⟩ := info_parts Try.info25
  have HN : Hid (∀ W, Below w.heap.size w W → Nodes W k blk pth s au h) := fun W hW => hN.later hW (Nat.le_refl _)
  have HP : Hid (∀ j, (pth j).size ≤ 1048576) := hp
  have HPS : Hid (∀ j, j ≤ k + 1 → psum pth j ≤ psum pth (k + 1)) := fun j hj => psum_le pth hj
  have HT : Hid (∀ W, Below w.heap.size w W → W.cell? ⟨blk 0, 0, none⟩ = some (.string s) ∧ W.cell? ⟨blk 0, 1, none⟩ = some (.string au) ∧ W.cell? ⟨blk 0, 2, none⟩ = some (.bool h)) := fun W hW => ⟨(HN.out W hW).c0, (HN.out W hW).c1, (HN.out W hW).c2⟩
  clear hN hp
  refine (callsIn_wide (n := 3)).1 ?_
  refine callsIn_of_wp_marks Try.func18 rfl trivial ?_
  refine wpIn_wide.2 ?_
  simp only [Try.ntmps18, List.size_toArray, List.length_cons, List.length_nil, Nat.reduceAdd, Nat.reduceSub, Array.replicate_succ, Array.replicate_zero, List.push_toArray, List.append_toArray, List.nil_append, List.cons_append]
  obtain ⟨c0, c1, c2⟩ := HT.out w (Below.refl _ _)
  go_wp2
  go_quiet (fail)
  go_wp2
  have HB0 : Hid (Below w.heap.size w (w.drewN nq)) := below_drewN (Below.refl _ _) _
  generalize w.drewN nq = W0 at *
  clear c0 c1 c2
  go_loopg [3, 4, 5] k (fun gk v3 v4 v5 wr => ∃ (j Z : Nat) (a3 : Option Addr) (c3 : Nat), Hid (gk + j = k) ∧ j ≤ k ∧ v5 = .pointer (some ⟨blk j, 0, none⟩) ∧ v4 = .int .i64 Z ∧ v3 = .slice a3 j c3 ∧ Hid (Z = s.size + 3 + au.size + psum pth j) ∧ Hid (wr.ownsRow w.heap.size 25 1 (.slice a3 j c3) j (ptrs blk j)) ∧ Hid (Below w.heap.size w wr))
  case atStart => exact ⟨0, s.size + 3 + au.size, none, 0, rfl, Nat.zero_le _, rfl, by go_num, rfl, rfl, World.ownsRow_nil _ _ _ _, HB0⟩
  case round =>
    clear HB0
    obtain ⟨j, Z, a3, c3, HGK, hj, rfl, rfl, rfl, HZ, HO, HB⟩ := hrel
    have hZ : Z ≤ 4194304 := by have := HZ.out; have := HPS.out j (by omega); omega
    by_cases hlt : j < k
    · have e4 := (HN.out _ HB.out).und j hlt
      have e3 := (HN.out _ HB.out).path j
      have hbl := (HN.out _ HB.out).lt j
      have hZ2 : Z + (1 + (pth j).size) ≤ 4194304 := by
        have h1 := HZ.out
        have h2 := HPS.out (j + 1) (by omega)
        have h3 : psum pth (j + 1) = psum pth j + (1 + (pth j).size) := rfl
        omega
      have HZ2 : Hid (Z + (1 + (pth j).size) = s.size + 3 + au.size + psum pth (j + 1)) := by show _ = _; rw [HZ.out]; simp only [psum]; omega
      have hj6 : j ≤ 65536 := by omega
      generalize pth j = pj at *
      have HND : Hid (∀ W, Below w.heap.size w W → W.cell? ⟨blk j, 3, none⟩ = some (.string pj) ∧ W.cell? ⟨blk j, 4, none⟩ = some (.pointer (some ⟨blk (j + 1), 0, none⟩))) := fun W hW => ⟨(hW.cell (p := ⟨blk j, 3, none⟩) (by have := HB.out.size; have := (HN.out w (Below.refl _ _)).lt j; exact this)).trans (((HB.out.cell (p := ⟨blk j, 3, none⟩) ((HN.out w (Below.refl _ _)).lt j))).symm.trans e3), (HN.out W hW).und j hlt⟩
      go_wp2_with (at_builtin; refine wpList_append_own_at _ rfl (.tmp 35) (.tmp 37) 42 rfl w.heap.size 25 i25 (.pointer none) 1 8 Try.underlying42 hi25 h250 h251 h252 rfl Nat.one_pos (.slice a3 j c3) j (ptrs blk j) rfl (HO.out.alloc _) ⟨wr.heap.size, 0, none⟩ 1 1 [.pointer (some ⟨blk j, 0, none⟩)] rfl rfl (cell_one_new _ _ _) (one_ptr _) (rroom1 hj6) (rroom2 hj6) (Nat.le_trans HB.out.size (by simp)) ?_; intro v' w' hown' hgr' hnil' hloc'; obtain ⟨a4, c4, rfl, HO4, HB4⟩ := ptr_app HO.out HB.out HB.out.size hown' hgr'; clear hown' hgr' hnil' hloc'; obtain ⟨f3, f4⟩ := HND.out _ HB4.out)
      go_roundg (gk - 1)
      case measure => have := HGK.out; omega
      case rel => exact ⟨j + 1, Z + (1 + pj.size), a4, c4, (show _ = _ by have := HGK.out; omega), hlt, rfl, by go_num, rfl, HZ2, HO4, HB4⟩
    · obtain rfl : j = k := by omega
      have e4 := (HN.out _ HB.out).top
      have e3 := (HN.out _ HB.out).path j
      have HZ2 : Hid (Z + (pth j).size + 1 = s.size + 3 + au.size + psum pth (j + 1)) := by show _ = _; rw [HZ.out]; simp only [psum]; omega
      have hZ2 : Z + (pth j).size ≤ 4194304 := by have := HZ2.out; omega
      generalize hpj : pth j = pj at *
      have HPJ : Hid (pth j = pj) := hpj
      clear hpj
      go_upto_region 10 with fail
      go_cut [6] from 6 to 54 (fun v6 wx => ∃ (Bb : Nat) (v : Value), v6 = .pointer (some ⟨Bb, 0, none⟩) ∧ Hid (TX w wx w.heap.size Bb v v []) ∧ Hid (wx.ownsRow w.heap.size 25 1 (.slice a3 j c3) j (ptrs blk j)))
      case first =>
        go_wp2_with (at_make; refine wpList_make_own _ rfl _ _ 27 rfl w.heap.size 5 i5 (.int .u8 0) 1 Try.underlying27 hi5 h50 h51 .i64 .i64 _ (Z + pj.size) rfl rfl (by omega) (by rw [h52]; omega) (by unfold maxLen; omega) HB.out.size ?_; intro w4 hown4 hg4)
        go_meet
        case rel => exact ⟨w4.heap.size, _, rfl, tx_start (k := 0) HB.out hown4 hg4 HB.out.size, (HO.out.kept hg4 (own_none _)).alloc _⟩
      case rest =>
        obtain ⟨Bb, v, rfl, HX, HO2⟩ := hcut
        clear HO HB e4 e3 HZ HZ2 hZ hZ2
        refine ‹∀ (a : Act) (w : World), Code.wp Try.prog _ _ a w → _› _ _ ?_
        apply wp_seq_k
        intro K15 hK15
        go_cut [55] from 55 to 78 (fun _ wx => ∃ (v : Value), Hid (TX w wx w.heap.size Bb v v (preT s au h)) ∧ Hid (wx.ownsRow w.heap.size 25 1 (.slice a3 j c3) j (ptrs blk j)))
        case first =>
          obtain ⟨c0, c1, c2⟩ := HT.out _ HX.out.bel
          have hbb : blk 0 ≠ Bb := Nat.ne_of_lt (Nat.lt_of_lt_of_le ((HN.out w (Below.refl _ _)).lt 0) HX.out.hB)
          have hbw : blk 0 < wc.heap.size := (HN.out _ HX.out.bel).lt 0
          have hBw : Bb < wc.heap.size := HX.out.lt
          have x0 := HX.out.cell
          have x1 := HX.out.frozen
          by_cases hs : s.toList.isEmpty = true
          · have HPR : Hid (preT s au h = []) := by
              have e := (empty_iff s).1 hs
              show preT s au h = []
              rw [e]; rfl
            go_wp2
            go_meet
            case rel => exact ⟨v, by rw [HPR.out]; exact HX, HO2⟩
          · have hs' : s.toList.isEmpty = false := by simpa using hs
            have HPR : Hid (preT s au h = s.data.toList ++ [58] ++ (if h then [47, 47] ++ au.data.toList else [])) := by
              show preT s au h = _
              unfold preT
              rw [if_neg]
              intro e
              exact hs ((empty_iff s).2 (data_inj e))
            clear hs
            obtain ⟨av, nv, cv, hv⟩ : ∃ av nv cv, v = .slice av nv cv := by
              obtain ⟨av, cv, hv⟩ := HX.out.buf.shape
              exact ⟨av, _, cv, hv⟩
            subst hv
            have hsz : ([] : List UInt8).length + s.size ≤ 140737488355328 := by simp; omega
            have hsz2 : ([] ++ s.data.toList : List UInt8).length + 1 ≤ 140737488355328 := by simp; omega
            go_upto_region 12 with fail
            go_cut [60] from 60 to 67 (fun _ wx => ∃ av nv cv, Hid (TX w wx w.heap.size Bb (.slice av nv cv) (.slice av nv cv) (s.data.toList ++ [58])) ∧ Hid (wx.ownsRow w.heap.size 25 1 (.slice a3 j c3) j (ptrs blk j)))
            case first =>
              refine wp_region_noPanic ?_
              go_region_law (first | (refine step_text rfl (.tmp 60) (.tmp 64) rfl HX.out.drew rfl s rfl hsz ?_; intro a5 n5 c5 W5 HX5 hg5; have HO5 := ptrs_kept HX.out.drew HO2.out hg5; have y0 := HX5.cell; have y1 := HX5.frozen; have y2 := HX5.lt) | (refine step_text rfl (.tmp 60) (.tmp 64) rfl (HX.out.drew.alloc _) rfl s rfl hsz ?_; intro a5 n5 c5 W5 HX5 hg5; have HO5 := ptrs_kept (HX.out.drew.alloc _) (HO2.out.alloc _) hg5; have hnb := new_kept (ci := 58) HX.out.drew hg5; have y0 := HX5.cell; have y1 := HX5.frozen; have y2 := HX5.lt) | (refine step_byte rfl (.tmp 65) (.tmp 66) rfl (HX5.alloc _) rfl ⟨W5.heap.size, 0, none⟩ 58 58 rfl rfl (new_cell _ _) hsz2 ?_; intro a6 n6 c6 W6 HX6 hg6; have HO6 := ptrs_kept (HX5.alloc _) (HO5.alloc _) hg6; have z0 := HX6.cell; have z1 := HX6.frozen) | (refine step_byte rfl (.tmp 65) (.tmp 66) rfl HX5 rfl ⟨wc.heap.size, 0, none⟩ 58 58 rfl rfl hnb hsz2 ?_; intro a6 n6 c6 W6 HX6 hg6; have HO6 := ptrs_kept HX5 HO5 hg6; have z0 := HX6.cell; have z1 := HX6.frozen))
              all_goals (refine NoPanic.normal ?_)
              all_goals go_wp2
              all_goals (go_meet; exact ⟨a6, n6, c6, HX6.store, ptrs_store HX6 HO6⟩)
            case rest =>
              obtain ⟨av, nv, cv, HX2, HO3⟩ := hcut
              clear HX HO2 x0 x1 c0 c1 c2 hbw hBw hsz hsz2
              obtain ⟨c0, c1, c2⟩ := HT.out _ HX2.out.bel
              have hbw : blk 0 < wc.heap.size := (HN.out _ HX2.out.bel).lt 0
              have hBw : Bb < wc.heap.size := HX2.out.lt
              have x0 := HX2.out.cell
              have x1 := HX2.out.frozen
              cases h with
              | false =>
                go_wp2
                go_meet
                case rel => exact ⟨_, by rw [HPR.out]; simpa using HX2, HO3⟩
              | true =>
                have hsz : (s.data.toList ++ [58] : List UInt8).length + (ByteArray.mk #[47, 47]).size ≤ 140737488355328 := by
                  have : (ByteArray.mk #[47, 47]).size = 2 := rfl
                  rw [this]; simp; omega
                have hsz2 : (s.data.toList ++ [58] ++ (ByteArray.mk #[47, 47]).data.toList : List UInt8).length + au.size ≤ 140737488355328 := by simp; omega
                go_upto_region 14 with fail
                refine wp_region_noPanic ?_
                go_region_law (first | (refine step_text rfl (.tmp 72) (.const (.string ⟨#[47, 47]⟩)) rfl HX2.out.drew rfl ⟨#[47, 47]⟩ rfl hsz ?_; intro a5 n5 c5 W5 HX5 hg5; have HO5 := ptrs_kept HX2.out.drew HO3.out hg5; have y0 := HX5.cell; have y1 := HX5.frozen; have y2 := HX5.lt; obtain ⟨d0, d1, d2⟩ := HT.out _ HX5.bel) | (refine step_text rfl (.tmp 73) (.tmp 77) rfl HX5 rfl au rfl hsz2 ?_; intro a6 n6 c6 W6 HX6 hg6; have HO6 := ptrs_kept HX5 HO5 hg6; have z0 := HX6.cell; have z1 := HX6.frozen))
                all_goals (refine NoPanic.normal ?_)
                all_goals go_wp2
                all_goals (go_meet; exact ⟨.slice a6 n6 c6, by rw [HPR.out]; show TX _ _ _ _ _ _ _; simpa using HX6.store, ptrs_store HX6 HO6⟩)
        case rest =>
          obtain ⟨v, HX2, HO3⟩ := hcut
          clear HX HO2
          have HPL : Hid ((preT s au h).length ≤ 4194304) := by
            show (preT s au h).length ≤ 4194304
            unfold preT
            split
            · simp
            · split <;> simp <;> omega
          generalize hPR : preT s au h = PR at *
          have HPRE : Hid (preT s au h = PR) := hPR
          clear hPR
          obtain ⟨av, cv, rfl⟩ := HX2.out.buf.shape
          have x0 := HX2.out.cell
          have hBw : Bb < wc.heap.size := HX2.out.lt
          refine hK15 _ _ ?_
          go_upto_region 16 with fail
          obtain ⟨W15, hW15⟩ : ∃ W15, W15 = wc.alloc (.cells #[.int .i64 (PR.length : Int)] 3) := ⟨_, rfl⟩
          rw [← hW15]
          obtain ⟨Bst, hBst⟩ : ∃ Bst, Bst = wc.heap.size := ⟨_, rfl⟩
          rw [← hBst]
          have HX3 : Hid (TX w W15 w.heap.size Bb (.slice av PR.length cv) (.slice av PR.length cv) PR) := by rw [hW15]; exact HX2.out.alloc _
          have HO4 : Hid (W15.ownsRow w.heap.size 25 1 (.slice a3 j c3) j (ptrs blk j)) := by rw [hW15]; exact HO3.out.alloc _
          have HST : Hid (W15.heap[Bst]? = some (.cells #[.int .i64 (PR.length : Int)] 3)) := by rw [hW15, hBst]; exact heap_alloc_new _ _
          have hBs1 : Bst ≠ Bb := by omega
          have HBst : Hid (w.heap.size ≤ Bst) := by rw [hBst]; exact HX2.out.le
          clear hW15 hBst HX2 HO3 x0 hBw
          have x0 := HX3.out.cell
          have x1 := HX3.out.frozen
          have hBw : Bb < W15.heap.size := HX3.out.lt
          have tp : W15.cell? ⟨blk j, 3, none⟩ = some (.string pj) := by rw [(HN.out _ HX3.out.bel).path j, HPJ.out]
          have hbw : blk j < W15.heap.size := (HN.out _ HX3.out.bel).lt j
          have hsz : PR.length + pj.size ≤ 140737488355328 := by have := HPL.out; have := HP.out j; rw [HPJ.out] at this; omega
          go_cut [81] from 81 to 86 (fun _ wx => ∃ av nv cv, Hid (TX w wx w.heap.size Bb (.slice av nv cv) (.slice av nv cv) (PR ++ pj.data.toList)) ∧ Hid (wx.ownsRow w.heap.size 25 1 (.slice a3 j c3) j (ptrs blk j)) ∧ Hid (wx.heap[Bst]? = some (.cells #[.int .i64 (PR.length : Int)] 3)))
          case first =>
            refine wp_region_noPanic ?_
            go_region_law (refine step_text rfl (.tmp 81) (.tmp 85) rfl HX3.out.drew rfl pj rfl hsz ?_; intro a5 n5 c5 W5 HX5 hg5; have HO5 := ptrs_kept HX3.out.drew HO4.out hg5; have HST5 := HX3.out.drew.other hg5 HST.out (by decide); have y0 := HX5.cell; have y1 := HX5.frozen; have y2 := HX5.lt)
            all_goals (refine NoPanic.normal ?_)
            all_goals go_wp2
            all_goals (go_meet; exact ⟨a5, n5, c5, HX5.store, ptrs_store HX5 HO5, (Below.heap_setCell _ _ _ _ (by simpa using hBs1)).trans HST5⟩)
          case rest =>
            obtain ⟨av, nv, cv, HX6, HO6, HST6⟩ := hcut
            clear HX3 HO4 HST x0 x1 hBw tp hbw hsz
            go_wp2_with fail
            refine ((callsIn_wide (n := 2)).1 (back_in Fence.wide 2 trivial rfl _ _ _ _)).mono ?_
            rintro e w7 ⟨rfl, rfl⟩
            go_wp2
            obtain ⟨WS, hWS⟩ : ∃ WS, WS = wc.alloc (.cells #[.slice a3 j c3] 42) := ⟨_, rfl⟩
            obtain ⟨Bs, hBs⟩ : ∃ Bs, Bs = wc.heap.size := ⟨_, rfl⟩
            have HSOK : Hid (Sok WS Bb (Sx Bst Bs a3)) := by rw [hWS, hBs]; exact sok_start HX6.out.box HO6.out HST6.out
            have HXS : Hid (TX w WS w.heap.size Bb (.slice av nv cv) (.slice av nv cv) (PR ++ pj.data.toList)) := by rw [hWS]; exact HX6.out.alloc _
            have hp0 := ptrs_start HO6.out
            have HPT : Hid (Ptrs WS a3 j blk) := by rw [hWS]; exact hp0.2
            have HC0 : Hid (a3 = none → c3 = 0) := hp0.1
            have HBC : Hid (WS.cell? ⟨Bs, 0, none⟩ = some (.slice a3 j c3)) := by rw [hWS, hBs]; show _ = _; rw [World.cell?_alloc_new]; rfl
            have HBL : Hid (Bs < WS.heap.size) := by rw [hWS, hBs]; show _ < _; simp
            have HSTS : Hid (WS.heap[Bst]? = some (.cells #[.int .i64 (PR.length : Int)] 3)) := by rw [hWS]; exact (Below.heap_alloc _ _ _ (Array.getElem?_eq_some_iff.1 HST6.out).1).trans HST6.out
            rw [← hWS, ← hBs]
            clear hWS hBs hp0 HX6 HO6 HST6
            refine (wpIn_wide (n := 3)).1 ?_
            refine wpIn_rangeFunc_ownF (F := Fence.wide) (n := 3) rfl (by omega) (gf := 27) (lb := #[.pointer (some ⟨Bs, 0, none⟩)]) rfl trivial (enters_of Try.func27 (by kernel_rfl) rfl)
              (back_stops Fence.wide 2 trivial rfl (by omega) Bs a3 j c3 blk hk WS HBL.out HBC.out HC0.out HPT.out) (fun h k => KB.trans h k) (kb_put HBL.out HSOK.out) (Below.refl _ _) (fun _ => rfl)
              (fun pre W => (∃ av nv cv, TX w W w.heap.size Bb (.slice av nv cv) (.slice av nv cv) (PR ++ accT pth pj.data.toList pre)) ∧ Kept WS W (Sx Bst Bs a3))
              (fun _ _ _ => False)
              (fun pre A A' row hs hg hr => ⟨by obtain ⟨av, nv, cv, h⟩ := hs.1; exact ⟨av, nv, cv, h.turn hg (fun r e => ⟨Nat.le_trans HXS.out.le (hr r e).1, (hr r e).2⟩)⟩, hs.2.turn HSOK.out hg (fun r e => (hr r e).2)⟩)
              (fun _ _ _ _ _ h _ _ => h)
              ⟨⟨av, nv, cv, HXS.out⟩, fun _ _ => rfl⟩ ?a1 ?assign ?body ?done ?stop
            case assign =>
              intro l x W K hK
              gi_wp2
              exact hK
            case body =>
              rintro l pre x W ⟨⟨av, nv, cv, HXW⟩, HKW⟩ hlen
              have x0 := HXW.cell
              have x1 := HXW.frozen
              have st0 : W.cell? ⟨Bst, 0, none⟩ = some (.int .i64 (PR.length : Int)) := by
                have := (HKW Bst (.inl rfl)).trans HSTS.out
                simp [World.cell?, this]
              have px := (HN.out _ HXW.bel).path x
              have hbx : blk x < W.heap.size := (HN.out _ HXW.bel).lt x
              have hBw : Bb < W.heap.size := HXW.lt
              have hbb : blk x ≠ Bb := Nat.ne_of_lt (Nat.lt_of_lt_of_le ((HN.out w (Below.refl _ _)).lt x) HXW.hB)
              have HPX : Hid ((pth x).size ≤ 1048576) := HP.out x
              have HACC : Hid (accT pth pj.data.toList (pre ++ [x]) = strip (accT pth pj.data.toList pre) ++ [47] ++ (pth x).data.toList) := accT_snoc _ _ _ _
              have HAL : Hid ((accT pth pj.data.toList pre).length ≤ 1048576 + 65536 * 1048577) := by
                show _ ≤ _
                have h1 := accT_length pth pj.data.toList pre 1048576 HP.out
                have h2 : pj.data.toList.length ≤ 1048576 := by rw [str_len, ← HPJ.out]; exact HP.out j
                have h3 : pre.length * (1048576 + 1) ≤ 65536 * 1048577 := Nat.mul_le_mul (by omega) (by omega)
                omega
              have HXW' : Hid (TX w W w.heap.size Bb (.slice av nv cv) (.slice av nv cv) (PR ++ accT pth pj.data.toList pre)) := HXW
              have HKW' : Hid (Kept WS W (Sx Bst Bs a3)) := HKW
              clear HXW HKW
              have HPATH : Hid (∀ W, Below w.heap.size w W → W.cell? ⟨blk x, 3, none⟩ = some (.string (pth x))) := fun W hW => (HN.out W hW).path x
              generalize accT pth pj.data.toList pre = A at *
              generalize pth x = px' at *
              rcases List.eq_nil_or_concat A with rfl | ⟨A', c, hA⟩
              · obtain ⟨a9, c9, h9⟩ := HXW'.out.buf.shape
                cases h9
                simp only [List.append_nil] at x0 HXW'
                have HCT : Hid (PR ++ accT pth pj.data.toList (pre ++ [x]) = PR ++ [47] ++ px'.data.toList) := by show _ = _; rw [HACC.out, strip_nil]; simp
                have hl1 : PR.length + 1 ≤ 140737488355328 := by have := HPL.out; omega
                have hl2 : (PR ++ [47]).length + px'.size ≤ 140737488355328 := by have := HPL.out; have := HPX.out; simp; omega
                gi_wp2
                obtain ⟨W1, hW1⟩ : ∃ W1, W1 = W := ⟨_, rfl⟩
                have HX1 := HXW'
                have HK1 := HKW'
                rw [← hW1] at HX1 HK1 x0 x1 px hbx hBw ⊢
                have HKO : Hid (KeepsOthers W W1) := by rw [hW1]; exact KeepsOthers.refl W
                clear hW1
                refine round_region (by kernel_rfl) (by kernel_rfl) (fun ⟨_, _, h⟩ => h) ?_
                change wpAny _ _ _ _ (8 + 1) _ _ _
                refine wpAny_take (i := 3) (v := (.pointer (some ⟨blk x, 0, none⟩))) rfl (by kernel_rfl) (by kernel_rfl) (by kernel_rfl) (fun _ _ _ h => h) (Or.inl ⟨by rfl, ?_⟩) ?_
                · intro w; go_simp
                refine wpAny_take (i := 4) (v := (.pointer (some ⟨blk x, 0, none⟩))) rfl (by kernel_rfl) (by kernel_rfl) (by kernel_rfl) (fun _ _ _ h => h) (Or.inl ⟨by rfl, ?_⟩) ?_
                · intro w; go_simp
                refine wpAny_take (i := 5) (v := (.pointer (some ⟨blk x, 3, none⟩))) rfl (by kernel_rfl) (by kernel_rfl) (by kernel_rfl) (fun _ _ _ h => h) (Or.inl ⟨by rfl, ?_⟩) ?_
                · intro w; go_simp
                refine wpAny_ready (rs := [0, 1, 6]) (by kernel_rfl) (by simp) ?_
                refine (AllReady.cons rfl (fun K hK => ?_) (AllReady.cons rfl (fun K hK => ?_) (AllReady.cons rfl (fun K hK => ?_) AllReady.nil)))
                · go_simp
                  refine hK _ _ ?_
                  clear hK K
                  refine wpAny_ready (rs := [1, 6]) (by kernel_rfl) (by simp) ?_
                  refine (AllReady.cons rfl (fun K hK => ?_) (AllReady.cons rfl (fun K hK => ?_) AllReady.nil))
                  · go_simp
                    refine hK _ _ ?_
                    clear hK K
                    refine wpAny_ready (rs := [2, 6]) (by kernel_rfl) (by simp) ?_
                    refine (AllReady.cons rfl (fun K hK => ?_) (AllReady.cons rfl (fun K hK => ?_) AllReady.nil))
                    · refine step_byte rfl (.tmp 109) (.tmp 110) rfl (HX1.out.drew.alloc _) rfl ⟨W1.heap.size, 0, none⟩ 47 47 rfl rfl (new_cell _ _) hl1 ?_
                      intro a5 n5 c5 W5 HX5 hg5
                      have y0 := HX5.cell
                      have y1 := HX5.frozen
                      have y2 := HPATH.out _ HX5.bel
                      try go_simp
                      refine hK _ _ ?_
                      clear hK K
                      refine wpAny_ready (rs := [6]) (by kernel_rfl) (by simp) ?_
                      refine (AllReady.cons rfl (fun K hK => ?_) AllReady.nil)
                      · go_simp
                        refine hK _ _ ?_
                        clear hK K
                        refine wpAny_ready (rs := [7]) (by kernel_rfl) (by simp) ?_
                        refine (AllReady.cons rfl (fun K hK => ?_) AllReady.nil)
                        · refine step_text rfl (.tmp 111) (.tmp 115) rfl HX5 rfl px' rfl hl2 ?_
                          intro a6 n6 c6 W6 HX6 hg6
                          have z0 := HX6.cell
                          have z1 := HX6.frozen
                          try go_simp
                          refine hK _ _ ?_
                          clear hK K
                          refine wpAny_ready (rs := [8]) (by kernel_rfl) (by simp) ?_
                          refine (AllReady.cons rfl (fun K hK => ?_) AllReady.nil)
                          · go_simp
                            refine hK _ _ ?_
                            clear hK K
                            refine wpAny_done (by kernel_rfl) ?_ _
                            gi_wp2
                            obtain ⟨k1, k2, k3, k4⟩ := fin21 HSOK.out HX1.out HK1.out HKO.out HKW'.out hg5 HX5 hg6 HX6
                            exact ⟨k1, k2, ⟨a6, n6, c6, by rw [HCT.out]; exact k3⟩, k4⟩
                    · go_simp
                      refine hK _ _ ?_
                      clear hK K
                      refine wpAny_ready (rs := [2]) (by kernel_rfl) (by simp) ?_
                      refine (AllReady.cons rfl (fun K hK => ?_) AllReady.nil)
                      · refine step_byte rfl (.tmp 109) (.tmp 110) rfl (HX1.out.drew.alloc _) rfl ⟨W1.heap.size, 0, none⟩ 47 47 rfl rfl (new_cell _ _) hl1 ?_
                        intro a5 n5 c5 W5 HX5 hg5
                        have y0 := HX5.cell
                        have y1 := HX5.frozen
                        have y2 := HPATH.out _ HX5.bel
                        try go_simp
                        refine hK _ _ ?_
                        clear hK K
                        refine wpAny_ready (rs := [7]) (by kernel_rfl) (by simp) ?_
                        refine (AllReady.cons rfl (fun K hK => ?_) AllReady.nil)
                        · refine step_text rfl (.tmp 111) (.tmp 115) rfl HX5 rfl px' rfl hl2 ?_
                          intro a6 n6 c6 W6 HX6 hg6
                          have z0 := HX6.cell
                          have z1 := HX6.frozen
                          try go_simp
                          refine hK _ _ ?_
                          clear hK K
                          refine wpAny_ready (rs := [8]) (by kernel_rfl) (by simp) ?_
                          refine (AllReady.cons rfl (fun K hK => ?_) AllReady.nil)
                          · go_simp
                            refine hK _ _ ?_
                            clear hK K
                            refine wpAny_done (by kernel_rfl) ?_ _
                            gi_wp2
                            obtain ⟨k1, k2, k3, k4⟩ := fin21 HSOK.out HX1.out HK1.out HKO.out HKW'.out hg5 HX5 hg6 HX6
                            exact ⟨k1, k2, ⟨a6, n6, c6, by rw [HCT.out]; exact k3⟩, k4⟩
                  · go_simp
                    refine hK _ _ ?_
                    clear hK K
                    refine wpAny_ready (rs := [1]) (by kernel_rfl) (by simp) ?_
                    refine (AllReady.cons rfl (fun K hK => ?_) AllReady.nil)
                    · go_simp
                      refine hK _ _ ?_
                      clear hK K
                      refine wpAny_ready (rs := [2]) (by kernel_rfl) (by simp) ?_
                      refine (AllReady.cons rfl (fun K hK => ?_) AllReady.nil)
                      · refine step_byte rfl (.tmp 109) (.tmp 110) rfl (HX1.out.drew.alloc _) rfl ⟨W1.heap.size, 0, none⟩ 47 47 rfl rfl (new_cell _ _) hl1 ?_
                        intro a5 n5 c5 W5 HX5 hg5
                        have y0 := HX5.cell
                        have y1 := HX5.frozen
                        have y2 := HPATH.out _ HX5.bel
                        try go_simp
                        refine hK _ _ ?_
                        clear hK K
                        refine wpAny_ready (rs := [7]) (by kernel_rfl) (by simp) ?_
                        refine (AllReady.cons rfl (fun K hK => ?_) AllReady.nil)
                        · refine step_text rfl (.tmp 111) (.tmp 115) rfl HX5 rfl px' rfl hl2 ?_
                          intro a6 n6 c6 W6 HX6 hg6
                          have z0 := HX6.cell
                          have z1 := HX6.frozen
                          try go_simp
                          refine hK _ _ ?_
                          clear hK K
                          refine wpAny_ready (rs := [8]) (by kernel_rfl) (by simp) ?_
                          refine (AllReady.cons rfl (fun K hK => ?_) AllReady.nil)
                          · go_simp
                            refine hK _ _ ?_
                            clear hK K
                            refine wpAny_done (by kernel_rfl) ?_ _
                            gi_wp2
                            obtain ⟨k1, k2, k3, k4⟩ := fin21 HSOK.out HX1.out HK1.out HKO.out HKW'.out hg5 HX5 hg6 HX6
                            exact ⟨k1, k2, ⟨a6, n6, c6, by rw [HCT.out]; exact k3⟩, k4⟩
                · go_simp
                  refine hK _ _ ?_
                  clear hK K
                  refine wpAny_ready (rs := [0, 6]) (by kernel_rfl) (by simp) ?_
                  refine (AllReady.cons rfl (fun K hK => ?_) (AllReady.cons rfl (fun K hK => ?_) AllReady.nil))
                  · go_simp
                    refine hK _ _ ?_
                    clear hK K
                    refine wpAny_ready (rs := [2, 6]) (by kernel_rfl) (by simp) ?_
                    refine (AllReady.cons rfl (fun K hK => ?_) (AllReady.cons rfl (fun K hK => ?_) AllReady.nil))
                    · refine step_byte rfl (.tmp 109) (.tmp 110) rfl (HX1.out.drew.alloc _) rfl ⟨W1.heap.size, 0, none⟩ 47 47 rfl rfl (new_cell _ _) hl1 ?_
                      intro a5 n5 c5 W5 HX5 hg5
                      have y0 := HX5.cell
                      have y1 := HX5.frozen
                      have y2 := HPATH.out _ HX5.bel
                      try go_simp
                      refine hK _ _ ?_
                      clear hK K
                      refine wpAny_ready (rs := [6]) (by kernel_rfl) (by simp) ?_
                      refine (AllReady.cons rfl (fun K hK => ?_) AllReady.nil)
                      · go_simp
                        refine hK _ _ ?_
                        clear hK K
                        refine wpAny_ready (rs := [7]) (by kernel_rfl) (by simp) ?_
                        refine (AllReady.cons rfl (fun K hK => ?_) AllReady.nil)
                        · refine step_text rfl (.tmp 111) (.tmp 115) rfl HX5 rfl px' rfl hl2 ?_
                          intro a6 n6 c6 W6 HX6 hg6
                          have z0 := HX6.cell
                          have z1 := HX6.frozen
                          try go_simp
                          refine hK _ _ ?_
                          clear hK K
                          refine wpAny_ready (rs := [8]) (by kernel_rfl) (by simp) ?_
                          refine (AllReady.cons rfl (fun K hK => ?_) AllReady.nil)
                          · go_simp
                            refine hK _ _ ?_
                            clear hK K
                            refine wpAny_done (by kernel_rfl) ?_ _
                            gi_wp2
                            obtain ⟨k1, k2, k3, k4⟩ := fin21 HSOK.out HX1.out HK1.out HKO.out HKW'.out hg5 HX5 hg6 HX6
                            exact ⟨k1, k2, ⟨a6, n6, c6, by rw [HCT.out]; exact k3⟩, k4⟩
                    · go_simp
                      refine hK _ _ ?_
                      clear hK K
                      refine wpAny_ready (rs := [2]) (by kernel_rfl) (by simp) ?_
                      refine (AllReady.cons rfl (fun K hK => ?_) AllReady.nil)
                      · refine step_byte rfl (.tmp 109) (.tmp 110) rfl (HX1.out.drew.alloc _) rfl ⟨W1.heap.size, 0, none⟩ 47 47 rfl rfl (new_cell _ _) hl1 ?_
                        intro a5 n5 c5 W5 HX5 hg5
                        have y0 := HX5.cell
                        have y1 := HX5.frozen
                        have y2 := HPATH.out _ HX5.bel
                        try go_simp
                        refine hK _ _ ?_
                        clear hK K
                        refine wpAny_ready (rs := [7]) (by kernel_rfl) (by simp) ?_
                        refine (AllReady.cons rfl (fun K hK => ?_) AllReady.nil)
                        · refine step_text rfl (.tmp 111) (.tmp 115) rfl HX5 rfl px' rfl hl2 ?_
                          intro a6 n6 c6 W6 HX6 hg6
                          have z0 := HX6.cell
                          have z1 := HX6.frozen
                          try go_simp
                          refine hK _ _ ?_
                          clear hK K
                          refine wpAny_ready (rs := [8]) (by kernel_rfl) (by simp) ?_
                          refine (AllReady.cons rfl (fun K hK => ?_) AllReady.nil)
                          · go_simp
                            refine hK _ _ ?_
                            clear hK K
                            refine wpAny_done (by kernel_rfl) ?_ _
                            gi_wp2
                            obtain ⟨k1, k2, k3, k4⟩ := fin21 HSOK.out HX1.out HK1.out HKO.out HKW'.out hg5 HX5 hg6 HX6
                            exact ⟨k1, k2, ⟨a6, n6, c6, by rw [HCT.out]; exact k3⟩, k4⟩
                  · go_simp
                    refine hK _ _ ?_
                    clear hK K
                    refine wpAny_ready (rs := [0]) (by kernel_rfl) (by simp) ?_
                    refine (AllReady.cons rfl (fun K hK => ?_) AllReady.nil)
                    · go_simp
                      refine hK _ _ ?_
                      clear hK K
                      refine wpAny_ready (rs := [2]) (by kernel_rfl) (by simp) ?_
                      refine (AllReady.cons rfl (fun K hK => ?_) AllReady.nil)
                      · refine step_byte rfl (.tmp 109) (.tmp 110) rfl (HX1.out.drew.alloc _) rfl ⟨W1.heap.size, 0, none⟩ 47 47 rfl rfl (new_cell _ _) hl1 ?_
                        intro a5 n5 c5 W5 HX5 hg5
                        have y0 := HX5.cell
                        have y1 := HX5.frozen
                        have y2 := HPATH.out _ HX5.bel
                        try go_simp
                        refine hK _ _ ?_
                        clear hK K
                        refine wpAny_ready (rs := [7]) (by kernel_rfl) (by simp) ?_
                        refine (AllReady.cons rfl (fun K hK => ?_) AllReady.nil)
                        · refine step_text rfl (.tmp 111) (.tmp 115) rfl HX5 rfl px' rfl hl2 ?_
                          intro a6 n6 c6 W6 HX6 hg6
                          have z0 := HX6.cell
                          have z1 := HX6.frozen
                          try go_simp
                          refine hK _ _ ?_
                          clear hK K
                          refine wpAny_ready (rs := [8]) (by kernel_rfl) (by simp) ?_
                          refine (AllReady.cons rfl (fun K hK => ?_) AllReady.nil)
                          · go_simp
                            refine hK _ _ ?_
                            clear hK K
                            refine wpAny_done (by kernel_rfl) ?_ _
                            gi_wp2
                            obtain ⟨k1, k2, k3, k4⟩ := fin21 HSOK.out HX1.out HK1.out HKO.out HKW'.out hg5 HX5 hg6 HX6
                            exact ⟨k1, k2, ⟨a6, n6, c6, by rw [HCT.out]; exact k3⟩, k4⟩
                · go_simp
                  refine hK _ _ ?_
                  clear hK K
                  refine wpAny_ready (rs := [0, 1]) (by kernel_rfl) (by simp) ?_
                  refine (AllReady.cons rfl (fun K hK => ?_) (AllReady.cons rfl (fun K hK => ?_) AllReady.nil))
                  · go_simp
                    refine hK _ _ ?_
                    clear hK K
                    refine wpAny_ready (rs := [1]) (by kernel_rfl) (by simp) ?_
                    refine (AllReady.cons rfl (fun K hK => ?_) AllReady.nil)
                    · go_simp
                      refine hK _ _ ?_
                      clear hK K
                      refine wpAny_ready (rs := [2]) (by kernel_rfl) (by simp) ?_
                      refine (AllReady.cons rfl (fun K hK => ?_) AllReady.nil)
                      · refine step_byte rfl (.tmp 109) (.tmp 110) rfl (HX1.out.drew.alloc _) rfl ⟨W1.heap.size, 0, none⟩ 47 47 rfl rfl (new_cell _ _) hl1 ?_
                        intro a5 n5 c5 W5 HX5 hg5
                        have y0 := HX5.cell
                        have y1 := HX5.frozen
                        have y2 := HPATH.out _ HX5.bel
                        try go_simp
                        refine hK _ _ ?_
                        clear hK K
                        refine wpAny_ready (rs := [7]) (by kernel_rfl) (by simp) ?_
                        refine (AllReady.cons rfl (fun K hK => ?_) AllReady.nil)
                        · refine step_text rfl (.tmp 111) (.tmp 115) rfl HX5 rfl px' rfl hl2 ?_
                          intro a6 n6 c6 W6 HX6 hg6
                          have z0 := HX6.cell
                          have z1 := HX6.frozen
                          try go_simp
                          refine hK _ _ ?_
                          clear hK K
                          refine wpAny_ready (rs := [8]) (by kernel_rfl) (by simp) ?_
                          refine (AllReady.cons rfl (fun K hK => ?_) AllReady.nil)
                          · go_simp
                            refine hK _ _ ?_
                            clear hK K
                            refine wpAny_done (by kernel_rfl) ?_ _
                            gi_wp2
                            obtain ⟨k1, k2, k3, k4⟩ := fin21 HSOK.out HX1.out HK1.out HKO.out HKW'.out hg5 HX5 hg6 HX6
                            exact ⟨k1, k2, ⟨a6, n6, c6, by rw [HCT.out]; exact k3⟩, k4⟩
                  · go_simp
                    refine hK _ _ ?_
                    clear hK K
                    refine wpAny_ready (rs := [0]) (by kernel_rfl) (by simp) ?_
                    refine (AllReady.cons rfl (fun K hK => ?_) AllReady.nil)
                    · go_simp
                      refine hK _ _ ?_
                      clear hK K
                      refine wpAny_ready (rs := [2]) (by kernel_rfl) (by simp) ?_
                      refine (AllReady.cons rfl (fun K hK => ?_) AllReady.nil)
                      · refine step_byte rfl (.tmp 109) (.tmp 110) rfl (HX1.out.drew.alloc _) rfl ⟨W1.heap.size, 0, none⟩ 47 47 rfl rfl (new_cell _ _) hl1 ?_
                        intro a5 n5 c5 W5 HX5 hg5
                        have y0 := HX5.cell
                        have y1 := HX5.frozen
                        have y2 := HPATH.out _ HX5.bel
                        try go_simp
                        refine hK _ _ ?_
                        clear hK K
                        refine wpAny_ready (rs := [7]) (by kernel_rfl) (by simp) ?_
                        refine (AllReady.cons rfl (fun K hK => ?_) AllReady.nil)
                        · refine step_text rfl (.tmp 111) (.tmp 115) rfl HX5 rfl px' rfl hl2 ?_
                          intro a6 n6 c6 W6 HX6 hg6
                          have z0 := HX6.cell
                          have z1 := HX6.frozen
                          try go_simp
                          refine hK _ _ ?_
                          clear hK K
                          refine wpAny_ready (rs := [8]) (by kernel_rfl) (by simp) ?_
                          refine (AllReady.cons rfl (fun K hK => ?_) AllReady.nil)
                          · go_simp
                            refine hK _ _ ?_
                            clear hK K
                            refine wpAny_done (by kernel_rfl) ?_ _
                            gi_wp2
                            obtain ⟨k1, k2, k3, k4⟩ := fin21 HSOK.out HX1.out HK1.out HKO.out HKW'.out hg5 HX5 hg6 HX6
                            exact ⟨k1, k2, ⟨a6, n6, c6, by rw [HCT.out]; exact k3⟩, k4⟩
              · rw [List.concat_eq_append] at hA
                subst hA
                rw [show PR ++ (A' ++ [c]) = (PR ++ A') ++ [c] from by simp] at HXW'
                have HPP : Hid (PR.length ≤ (PR ++ A').length) := by show _ ≤ _; simp
                have HPB : Hid ((PR ++ A').length ≤ 4194304 + 1048576 + 65536 * 1048577) := by
                  show _ ≤ _
                  have h1 := HAL.out
                  have h2 := HPL.out
                  simp at h1 ⊢
                  omega
                obtain ⟨g, c9, h9, hg1, hg2, hgc⟩ := HXW'.out.buf.there (by simp; omega)
                cases h9
                have hlast : W.cell? ⟨g, (PR ++ A').length, none⟩ = some (.int .u8 (c.toNat : Int)) := by
                  have := HXW'.out.buf.cell (j := (PR ++ A').length) (by simp)
                  simpa using this
                have hll : ((PR ++ A') ++ [c]).length = (PR ++ A').length + 1 := by rw [List.length_append]; rfl
                rw [hll] at x0 HXW' hgc
                have HA2 : Hid (∀ Z, PR ++ (A' ++ Z) = (PR ++ A') ++ Z) := fun Z => (List.append_assoc _ _ _).symm
                have HPA : Hid (PR ++ accT pth pj.data.toList (pre ++ [x]) = PR ++ (strip (A' ++ [c]) ++ [47] ++ px'.data.toList)) := by show _ = _; rw [HACC.out]
                clear hll HAL HACC
                generalize PR ++ A' = P' at *
                have q1 : (PR.length : Int) < (P'.length : Int) + 1 := by have := HPP.out; omega
                have q2 : PR.length < P'.length + 1 := by have := HPP.out; omega
                have q3 : (P'.length : Int) ≤ cv := by omega
                have q4 : P'.length ≤ cv := by omega
                by_cases hc : c = 47
                · subst hc
                  have HCT : Hid (PR ++ accT pth pj.data.toList (pre ++ [x]) = P' ++ [47] ++ px'.data.toList) := by
                    show _ = _
                    rw [HPA.out, strip_snoc_slash, List.append_assoc A', HA2.out, List.append_assoc]
                  have hl1 : P'.length + 1 ≤ 140737488355328 := by have := HPB.out; omega
                  have hl2 : (P' ++ [47]).length + px'.size ≤ 140737488355328 := by have := HPB.out; have := HPX.out; simp; omega
                  have hx1 : (((47 : UInt8).toNat : Int) == 47) = true := by decide
                  have hx2 : ((47 : UInt8).toNat : Int) = 47 := by decide
                  rw [hx2] at hlast
                  have HX2 : Hid (TX w W w.heap.size Bb (.slice (some ⟨g, 0, none⟩) (P'.length + 1) cv) (.slice (some ⟨g, 0, none⟩) P'.length cv) P') := HXW'.out.cut
                  gi_wp2
                  obtain ⟨W1, hW1⟩ : ∃ W1, W1 = W.setCell ⟨Bb, 0, none⟩ (.slice (some ⟨g, 0, none⟩) P'.length cv) := ⟨_, rfl⟩
                  have HX1 : Hid (TX w W1 w.heap.size Bb (.slice (some ⟨g, 0, none⟩) P'.length cv) (.slice (some ⟨g, 0, none⟩) P'.length cv) P') := by rw [hW1]; exact HX2.out.store
                  have HK1 : Hid (Kept WS W1 (Sx Bst Bs a3)) := by rw [hW1]; exact HKW'.out.store HSOK.out _
                  have HKO : Hid (KeepsOthers W W1) := by rw [hW1]; exact KeepsOthers.setCell _ _ _
                  rw [← hW1]
                  clear hW1 x0 x1 px hbx hBw hlast HX2 st0
                  have x0 := HX1.out.cell
                  have x1 := HX1.out.frozen
                  have px := HPATH.out _ HX1.out.bel
                  have hbx : blk x < W1.heap.size := (HN.out _ HX1.out.bel).lt x
                  have hBw : Bb < W1.heap.size := HX1.out.lt
                  refine round_region (by kernel_rfl) (by kernel_rfl) (fun ⟨_, _, h⟩ => h) ?_
                  change wpAny _ _ _ _ (8 + 1) _ _ _
                  refine wpAny_take (i := 3) (v := (.pointer (some ⟨blk x, 0, none⟩))) rfl (by kernel_rfl) (by kernel_rfl) (by kernel_rfl) (fun _ _ _ h => h) (Or.inl ⟨by rfl, ?_⟩) ?_
                  · intro w; go_simp
                  refine wpAny_take (i := 4) (v := (.pointer (some ⟨blk x, 0, none⟩))) rfl (by kernel_rfl) (by kernel_rfl) (by kernel_rfl) (fun _ _ _ h => h) (Or.inl ⟨by rfl, ?_⟩) ?_
                  · intro w; go_simp
                  refine wpAny_take (i := 5) (v := (.pointer (some ⟨blk x, 3, none⟩))) rfl (by kernel_rfl) (by kernel_rfl) (by kernel_rfl) (fun _ _ _ h => h) (Or.inl ⟨by rfl, ?_⟩) ?_
                  · intro w; go_simp
                  refine wpAny_ready (rs := [0, 1, 6]) (by kernel_rfl) (by simp) ?_
                  refine (AllReady.cons rfl (fun K hK => ?_) (AllReady.cons rfl (fun K hK => ?_) (AllReady.cons rfl (fun K hK => ?_) AllReady.nil)))
                  · go_simp
                    refine hK _ _ ?_
                    clear hK K
                    refine wpAny_ready (rs := [1, 6]) (by kernel_rfl) (by simp) ?_
                    refine (AllReady.cons rfl (fun K hK => ?_) (AllReady.cons rfl (fun K hK => ?_) AllReady.nil))
                    · go_simp
                      refine hK _ _ ?_
                      clear hK K
                      refine wpAny_ready (rs := [2, 6]) (by kernel_rfl) (by simp) ?_
                      refine (AllReady.cons rfl (fun K hK => ?_) (AllReady.cons rfl (fun K hK => ?_) AllReady.nil))
                      · refine step_byte rfl (.tmp 109) (.tmp 110) rfl (HX1.out.drew.alloc _) rfl ⟨W1.heap.size, 0, none⟩ 47 47 rfl rfl (new_cell _ _) hl1 ?_
                        intro a5 n5 c5 W5 HX5 hg5
                        have y0 := HX5.cell
                        have y1 := HX5.frozen
                        have y2 := HPATH.out _ HX5.bel
                        try go_simp
                        refine hK _ _ ?_
                        clear hK K
                        refine wpAny_ready (rs := [6]) (by kernel_rfl) (by simp) ?_
                        refine (AllReady.cons rfl (fun K hK => ?_) AllReady.nil)
                        · go_simp
                          refine hK _ _ ?_
                          clear hK K
                          refine wpAny_ready (rs := [7]) (by kernel_rfl) (by simp) ?_
                          refine (AllReady.cons rfl (fun K hK => ?_) AllReady.nil)
                          · refine step_text rfl (.tmp 111) (.tmp 115) rfl HX5 rfl px' rfl hl2 ?_
                            intro a6 n6 c6 W6 HX6 hg6
                            have z0 := HX6.cell
                            have z1 := HX6.frozen
                            try go_simp
                            refine hK _ _ ?_
                            clear hK K
                            refine wpAny_ready (rs := [8]) (by kernel_rfl) (by simp) ?_
                            refine (AllReady.cons rfl (fun K hK => ?_) AllReady.nil)
                            · go_simp
                              refine hK _ _ ?_
                              clear hK K
                              refine wpAny_done (by kernel_rfl) ?_ _
                              gi_wp2
                              obtain ⟨k1, k2, k3, k4⟩ := fin21 HSOK.out HX1.out HK1.out HKO.out HKW'.out hg5 HX5 hg6 HX6
                              exact ⟨k1, k2, ⟨a6, n6, c6, by rw [HCT.out]; exact k3⟩, k4⟩
                      · go_simp
                        refine hK _ _ ?_
                        clear hK K
                        refine wpAny_ready (rs := [2]) (by kernel_rfl) (by simp) ?_
                        refine (AllReady.cons rfl (fun K hK => ?_) AllReady.nil)
                        · refine step_byte rfl (.tmp 109) (.tmp 110) rfl (HX1.out.drew.alloc _) rfl ⟨W1.heap.size, 0, none⟩ 47 47 rfl rfl (new_cell _ _) hl1 ?_
                          intro a5 n5 c5 W5 HX5 hg5
                          have y0 := HX5.cell
                          have y1 := HX5.frozen
                          have y2 := HPATH.out _ HX5.bel
                          try go_simp
                          refine hK _ _ ?_
                          clear hK K
                          refine wpAny_ready (rs := [7]) (by kernel_rfl) (by simp) ?_
                          refine (AllReady.cons rfl (fun K hK => ?_) AllReady.nil)
                          · refine step_text rfl (.tmp 111) (.tmp 115) rfl HX5 rfl px' rfl hl2 ?_
                            intro a6 n6 c6 W6 HX6 hg6
                            have z0 := HX6.cell
                            have z1 := HX6.frozen
                            try go_simp
                            refine hK _ _ ?_
                            clear hK K
                            refine wpAny_ready (rs := [8]) (by kernel_rfl) (by simp) ?_
                            refine (AllReady.cons rfl (fun K hK => ?_) AllReady.nil)
                            · go_simp
                              refine hK _ _ ?_
                              clear hK K
                              refine wpAny_done (by kernel_rfl) ?_ _
                              gi_wp2
                              obtain ⟨k1, k2, k3, k4⟩ := fin21 HSOK.out HX1.out HK1.out HKO.out HKW'.out hg5 HX5 hg6 HX6
                              exact ⟨k1, k2, ⟨a6, n6, c6, by rw [HCT.out]; exact k3⟩, k4⟩
                    · go_simp
                      refine hK _ _ ?_
                      clear hK K
                      refine wpAny_ready (rs := [1]) (by kernel_rfl) (by simp) ?_
                      refine (AllReady.cons rfl (fun K hK => ?_) AllReady.nil)
                      · go_simp
                        refine hK _ _ ?_
                        clear hK K
                        refine wpAny_ready (rs := [2]) (by kernel_rfl) (by simp) ?_
                        refine (AllReady.cons rfl (fun K hK => ?_) AllReady.nil)
                        · refine step_byte rfl (.tmp 109) (.tmp 110) rfl (HX1.out.drew.alloc _) rfl ⟨W1.heap.size, 0, none⟩ 47 47 rfl rfl (new_cell _ _) hl1 ?_
                          intro a5 n5 c5 W5 HX5 hg5
                          have y0 := HX5.cell
                          have y1 := HX5.frozen
                          have y2 := HPATH.out _ HX5.bel
                          try go_simp
                          refine hK _ _ ?_
                          clear hK K
                          refine wpAny_ready (rs := [7]) (by kernel_rfl) (by simp) ?_
                          refine (AllReady.cons rfl (fun K hK => ?_) AllReady.nil)
                          · refine step_text rfl (.tmp 111) (.tmp 115) rfl HX5 rfl px' rfl hl2 ?_
                            intro a6 n6 c6 W6 HX6 hg6
                            have z0 := HX6.cell
                            have z1 := HX6.frozen
                            try go_simp
                            refine hK _ _ ?_
                            clear hK K
                            refine wpAny_ready (rs := [8]) (by kernel_rfl) (by simp) ?_
                            refine (AllReady.cons rfl (fun K hK => ?_) AllReady.nil)
                            · go_simp
                              refine hK _ _ ?_
                              clear hK K
                              refine wpAny_done (by kernel_rfl) ?_ _
                              gi_wp2
                              obtain ⟨k1, k2, k3, k4⟩ := fin21 HSOK.out HX1.out HK1.out HKO.out HKW'.out hg5 HX5 hg6 HX6
                              exact ⟨k1, k2, ⟨a6, n6, c6, by rw [HCT.out]; exact k3⟩, k4⟩
                  · go_simp
                    refine hK _ _ ?_
                    clear hK K
                    refine wpAny_ready (rs := [0, 6]) (by kernel_rfl) (by simp) ?_
                    refine (AllReady.cons rfl (fun K hK => ?_) (AllReady.cons rfl (fun K hK => ?_) AllReady.nil))
                    · go_simp
                      refine hK _ _ ?_
                      clear hK K
                      refine wpAny_ready (rs := [2, 6]) (by kernel_rfl) (by simp) ?_
                      refine (AllReady.cons rfl (fun K hK => ?_) (AllReady.cons rfl (fun K hK => ?_) AllReady.nil))
                      · refine step_byte rfl (.tmp 109) (.tmp 110) rfl (HX1.out.drew.alloc _) rfl ⟨W1.heap.size, 0, none⟩ 47 47 rfl rfl (new_cell _ _) hl1 ?_
                        intro a5 n5 c5 W5 HX5 hg5
                        have y0 := HX5.cell
                        have y1 := HX5.frozen
                        have y2 := HPATH.out _ HX5.bel
                        try go_simp
                        refine hK _ _ ?_
                        clear hK K
                        refine wpAny_ready (rs := [6]) (by kernel_rfl) (by simp) ?_
                        refine (AllReady.cons rfl (fun K hK => ?_) AllReady.nil)
                        · go_simp
                          refine hK _ _ ?_
                          clear hK K
                          refine wpAny_ready (rs := [7]) (by kernel_rfl) (by simp) ?_
                          refine (AllReady.cons rfl (fun K hK => ?_) AllReady.nil)
                          · refine step_text rfl (.tmp 111) (.tmp 115) rfl HX5 rfl px' rfl hl2 ?_
                            intro a6 n6 c6 W6 HX6 hg6
                            have z0 := HX6.cell
                            have z1 := HX6.frozen
                            try go_simp
                            refine hK _ _ ?_
                            clear hK K
                            refine wpAny_ready (rs := [8]) (by kernel_rfl) (by simp) ?_
                            refine (AllReady.cons rfl (fun K hK => ?_) AllReady.nil)
                            · go_simp
                              refine hK _ _ ?_
                              clear hK K
                              refine wpAny_done (by kernel_rfl) ?_ _
                              gi_wp2
                              obtain ⟨k1, k2, k3, k4⟩ := fin21 HSOK.out HX1.out HK1.out HKO.out HKW'.out hg5 HX5 hg6 HX6
                              exact ⟨k1, k2, ⟨a6, n6, c6, by rw [HCT.out]; exact k3⟩, k4⟩
                      · go_simp
                        refine hK _ _ ?_
                        clear hK K
                        refine wpAny_ready (rs := [2]) (by kernel_rfl) (by simp) ?_
                        refine (AllReady.cons rfl (fun K hK => ?_) AllReady.nil)
                        · refine step_byte rfl (.tmp 109) (.tmp 110) rfl (HX1.out.drew.alloc _) rfl ⟨W1.heap.size, 0, none⟩ 47 47 rfl rfl (new_cell _ _) hl1 ?_
                          intro a5 n5 c5 W5 HX5 hg5
                          have y0 := HX5.cell
                          have y1 := HX5.frozen
                          have y2 := HPATH.out _ HX5.bel
                          try go_simp
                          refine hK _ _ ?_
                          clear hK K
                          refine wpAny_ready (rs := [7]) (by kernel_rfl) (by simp) ?_
                          refine (AllReady.cons rfl (fun K hK => ?_) AllReady.nil)
                          · refine step_text rfl (.tmp 111) (.tmp 115) rfl HX5 rfl px' rfl hl2 ?_
                            intro a6 n6 c6 W6 HX6 hg6
                            have z0 := HX6.cell
                            have z1 := HX6.frozen
                            try go_simp
                            refine hK _ _ ?_
                            clear hK K
                            refine wpAny_ready (rs := [8]) (by kernel_rfl) (by simp) ?_
                            refine (AllReady.cons rfl (fun K hK => ?_) AllReady.nil)
                            · go_simp
                              refine hK _ _ ?_
                              clear hK K
                              refine wpAny_done (by kernel_rfl) ?_ _
                              gi_wp2
                              obtain ⟨k1, k2, k3, k4⟩ := fin21 HSOK.out HX1.out HK1.out HKO.out HKW'.out hg5 HX5 hg6 HX6
                              exact ⟨k1, k2, ⟨a6, n6, c6, by rw [HCT.out]; exact k3⟩, k4⟩
                    · go_simp
                      refine hK _ _ ?_
                      clear hK K
                      refine wpAny_ready (rs := [0]) (by kernel_rfl) (by simp) ?_
                      refine (AllReady.cons rfl (fun K hK => ?_) AllReady.nil)
                      · go_simp
                        refine hK _ _ ?_
                        clear hK K
                        refine wpAny_ready (rs := [2]) (by kernel_rfl) (by simp) ?_
                        refine (AllReady.cons rfl (fun K hK => ?_) AllReady.nil)
                        · refine step_byte rfl (.tmp 109) (.tmp 110) rfl (HX1.out.drew.alloc _) rfl ⟨W1.heap.size, 0, none⟩ 47 47 rfl rfl (new_cell _ _) hl1 ?_
                          intro a5 n5 c5 W5 HX5 hg5
                          have y0 := HX5.cell
                          have y1 := HX5.frozen
                          have y2 := HPATH.out _ HX5.bel
                          try go_simp
                          refine hK _ _ ?_
                          clear hK K
                          refine wpAny_ready (rs := [7]) (by kernel_rfl) (by simp) ?_
                          refine (AllReady.cons rfl (fun K hK => ?_) AllReady.nil)
                          · refine step_text rfl (.tmp 111) (.tmp 115) rfl HX5 rfl px' rfl hl2 ?_
                            intro a6 n6 c6 W6 HX6 hg6
                            have z0 := HX6.cell
                            have z1 := HX6.frozen
                            try go_simp
                            refine hK _ _ ?_
                            clear hK K
                            refine wpAny_ready (rs := [8]) (by kernel_rfl) (by simp) ?_
                            refine (AllReady.cons rfl (fun K hK => ?_) AllReady.nil)
                            · go_simp
                              refine hK _ _ ?_
                              clear hK K
                              refine wpAny_done (by kernel_rfl) ?_ _
                              gi_wp2
                              obtain ⟨k1, k2, k3, k4⟩ := fin21 HSOK.out HX1.out HK1.out HKO.out HKW'.out hg5 HX5 hg6 HX6
                              exact ⟨k1, k2, ⟨a6, n6, c6, by rw [HCT.out]; exact k3⟩, k4⟩
                  · go_simp
                    refine hK _ _ ?_
                    clear hK K
                    refine wpAny_ready (rs := [0, 1]) (by kernel_rfl) (by simp) ?_
                    refine (AllReady.cons rfl (fun K hK => ?_) (AllReady.cons rfl (fun K hK => ?_) AllReady.nil))
                    · go_simp
                      refine hK _ _ ?_
                      clear hK K
                      refine wpAny_ready (rs := [1]) (by kernel_rfl) (by simp) ?_
                      refine (AllReady.cons rfl (fun K hK => ?_) AllReady.nil)
                      · go_simp
                        refine hK _ _ ?_
                        clear hK K
                        refine wpAny_ready (rs := [2]) (by kernel_rfl) (by simp) ?_
                        refine (AllReady.cons rfl (fun K hK => ?_) AllReady.nil)
                        · refine step_byte rfl (.tmp 109) (.tmp 110) rfl (HX1.out.drew.alloc _) rfl ⟨W1.heap.size, 0, none⟩ 47 47 rfl rfl (new_cell _ _) hl1 ?_
                          intro a5 n5 c5 W5 HX5 hg5
                          have y0 := HX5.cell
                          have y1 := HX5.frozen
                          have y2 := HPATH.out _ HX5.bel
                          try go_simp
                          refine hK _ _ ?_
                          clear hK K
                          refine wpAny_ready (rs := [7]) (by kernel_rfl) (by simp) ?_
                          refine (AllReady.cons rfl (fun K hK => ?_) AllReady.nil)
                          · refine step_text rfl (.tmp 111) (.tmp 115) rfl HX5 rfl px' rfl hl2 ?_
                            intro a6 n6 c6 W6 HX6 hg6
                            have z0 := HX6.cell
                            have z1 := HX6.frozen
                            try go_simp
                            refine hK _ _ ?_
                            clear hK K
                            refine wpAny_ready (rs := [8]) (by kernel_rfl) (by simp) ?_
                            refine (AllReady.cons rfl (fun K hK => ?_) AllReady.nil)
                            · go_simp
                              refine hK _ _ ?_
                              clear hK K
                              refine wpAny_done (by kernel_rfl) ?_ _
                              gi_wp2
                              obtain ⟨k1, k2, k3, k4⟩ := fin21 HSOK.out HX1.out HK1.out HKO.out HKW'.out hg5 HX5 hg6 HX6
                              exact ⟨k1, k2, ⟨a6, n6, c6, by rw [HCT.out]; exact k3⟩, k4⟩
                    · go_simp
                      refine hK _ _ ?_
                      clear hK K
                      refine wpAny_ready (rs := [0]) (by kernel_rfl) (by simp) ?_
                      refine (AllReady.cons rfl (fun K hK => ?_) AllReady.nil)
                      · go_simp
                        refine hK _ _ ?_
                        clear hK K
                        refine wpAny_ready (rs := [2]) (by kernel_rfl) (by simp) ?_
                        refine (AllReady.cons rfl (fun K hK => ?_) AllReady.nil)
                        · refine step_byte rfl (.tmp 109) (.tmp 110) rfl (HX1.out.drew.alloc _) rfl ⟨W1.heap.size, 0, none⟩ 47 47 rfl rfl (new_cell _ _) hl1 ?_
                          intro a5 n5 c5 W5 HX5 hg5
                          have y0 := HX5.cell
                          have y1 := HX5.frozen
                          have y2 := HPATH.out _ HX5.bel
                          try go_simp
                          refine hK _ _ ?_
                          clear hK K
                          refine wpAny_ready (rs := [7]) (by kernel_rfl) (by simp) ?_
                          refine (AllReady.cons rfl (fun K hK => ?_) AllReady.nil)
                          · refine step_text rfl (.tmp 111) (.tmp 115) rfl HX5 rfl px' rfl hl2 ?_
                            intro a6 n6 c6 W6 HX6 hg6
                            have z0 := HX6.cell
                            have z1 := HX6.frozen
                            try go_simp
                            refine hK _ _ ?_
                            clear hK K
                            refine wpAny_ready (rs := [8]) (by kernel_rfl) (by simp) ?_
                            refine (AllReady.cons rfl (fun K hK => ?_) AllReady.nil)
                            · go_simp
                              refine hK _ _ ?_
                              clear hK K
                              refine wpAny_done (by kernel_rfl) ?_ _
                              gi_wp2
                              obtain ⟨k1, k2, k3, k4⟩ := fin21 HSOK.out HX1.out HK1.out HKO.out HKW'.out hg5 HX5 hg6 HX6
                              exact ⟨k1, k2, ⟨a6, n6, c6, by rw [HCT.out]; exact k3⟩, k4⟩
                · have hx1 : ((c.toNat : Int) == 47) = false := by
                    rw [beq_eq_false_iff_ne]; intro h; apply hc
                    apply UInt8.toNat_inj.1; simp; omega
                  have HCT : Hid (PR ++ accT pth pj.data.toList (pre ++ [x]) = (P' ++ [c]) ++ [47] ++ px'.data.toList) := by
                    show _ = _
                    rw [HPA.out, strip_snoc_other _ hc, List.append_assoc A', List.append_assoc A', HA2.out]; simp
                  have hP1 : P'.length + 1 ≤ 140737488355328 := by have := HPB.out; omega
                  have hl1 : (P' ++ [c]).length + 1 ≤ 140737488355328 := by have := HPB.out; simp; omega
                  have hl2 : ((P' ++ [c]) ++ [47]).length + px'.size ≤ 140737488355328 := by have := HPB.out; have := HPX.out; simp; omega
                  gi_wp2
                  obtain ⟨W1, hW1⟩ : ∃ W1, W1 = W := ⟨_, rfl⟩
                  have HX1 := HXW'
                  have HK1 := HKW'
                  rw [← hW1] at HX1 HK1 x0 x1 px hbx hBw ⊢
                  have HKO : Hid (KeepsOthers W W1) := by rw [hW1]; exact KeepsOthers.refl W
                  clear hW1
                  refine round_region (by kernel_rfl) (by kernel_rfl) (fun ⟨_, _, h⟩ => h) ?_
                  change wpAny _ _ _ _ (8 + 1) _ _ _
                  refine wpAny_take (i := 3) (v := (.pointer (some ⟨blk x, 0, none⟩))) rfl (by kernel_rfl) (by kernel_rfl) (by kernel_rfl) (fun _ _ _ h => h) (Or.inl ⟨by rfl, ?_⟩) ?_
                  · intro w; go_simp
                  refine wpAny_take (i := 4) (v := (.pointer (some ⟨blk x, 0, none⟩))) rfl (by kernel_rfl) (by kernel_rfl) (by kernel_rfl) (fun _ _ _ h => h) (Or.inl ⟨by rfl, ?_⟩) ?_
                  · intro w; go_simp
                  refine wpAny_take (i := 5) (v := (.pointer (some ⟨blk x, 3, none⟩))) rfl (by kernel_rfl) (by kernel_rfl) (by kernel_rfl) (fun _ _ _ h => h) (Or.inl ⟨by rfl, ?_⟩) ?_
                  · intro w; go_simp
                  refine wpAny_ready (rs := [0, 1, 6]) (by kernel_rfl) (by simp) ?_
                  refine (AllReady.cons rfl (fun K hK => ?_) (AllReady.cons rfl (fun K hK => ?_) (AllReady.cons rfl (fun K hK => ?_) AllReady.nil)))
                  · go_simp
                    refine hK _ _ ?_
                    clear hK K
                    refine wpAny_ready (rs := [1, 6]) (by kernel_rfl) (by simp) ?_
                    refine (AllReady.cons rfl (fun K hK => ?_) (AllReady.cons rfl (fun K hK => ?_) AllReady.nil))
                    · go_simp
                      refine hK _ _ ?_
                      clear hK K
                      refine wpAny_ready (rs := [2, 6]) (by kernel_rfl) (by simp) ?_
                      refine (AllReady.cons rfl (fun K hK => ?_) (AllReady.cons rfl (fun K hK => ?_) AllReady.nil))
                      · refine step_byte rfl (.tmp 109) (.tmp 110) rfl (HX1.out.drew.alloc _) rfl ⟨W1.heap.size, 0, none⟩ 47 47 rfl rfl (new_cell _ _) hl1 ?_
                        intro a5 n5 c5 W5 HX5 hg5
                        have y0 := HX5.cell
                        have y1 := HX5.frozen
                        have y2 := HPATH.out _ HX5.bel
                        try go_simp
                        refine hK _ _ ?_
                        clear hK K
                        refine wpAny_ready (rs := [6]) (by kernel_rfl) (by simp) ?_
                        refine (AllReady.cons rfl (fun K hK => ?_) AllReady.nil)
                        · go_simp
                          refine hK _ _ ?_
                          clear hK K
                          refine wpAny_ready (rs := [7]) (by kernel_rfl) (by simp) ?_
                          refine (AllReady.cons rfl (fun K hK => ?_) AllReady.nil)
                          · refine step_text rfl (.tmp 111) (.tmp 115) rfl HX5 rfl px' rfl hl2 ?_
                            intro a6 n6 c6 W6 HX6 hg6
                            have z0 := HX6.cell
                            have z1 := HX6.frozen
                            try go_simp
                            refine hK _ _ ?_
                            clear hK K
                            refine wpAny_ready (rs := [8]) (by kernel_rfl) (by simp) ?_
                            refine (AllReady.cons rfl (fun K hK => ?_) AllReady.nil)
                            · go_simp
                              refine hK _ _ ?_
                              clear hK K
                              refine wpAny_done (by kernel_rfl) ?_ _
                              gi_wp2
                              obtain ⟨k1, k2, k3, k4⟩ := fin21 HSOK.out HX1.out HK1.out HKO.out HKW'.out hg5 HX5 hg6 HX6
                              exact ⟨k1, k2, ⟨a6, n6, c6, by rw [HCT.out]; exact k3⟩, k4⟩
                      · go_simp
                        refine hK _ _ ?_
                        clear hK K
                        refine wpAny_ready (rs := [2]) (by kernel_rfl) (by simp) ?_
                        refine (AllReady.cons rfl (fun K hK => ?_) AllReady.nil)
                        · refine step_byte rfl (.tmp 109) (.tmp 110) rfl (HX1.out.drew.alloc _) rfl ⟨W1.heap.size, 0, none⟩ 47 47 rfl rfl (new_cell _ _) hl1 ?_
                          intro a5 n5 c5 W5 HX5 hg5
                          have y0 := HX5.cell
                          have y1 := HX5.frozen
                          have y2 := HPATH.out _ HX5.bel
                          try go_simp
                          refine hK _ _ ?_
                          clear hK K
                          refine wpAny_ready (rs := [7]) (by kernel_rfl) (by simp) ?_
                          refine (AllReady.cons rfl (fun K hK => ?_) AllReady.nil)
                          · refine step_text rfl (.tmp 111) (.tmp 115) rfl HX5 rfl px' rfl hl2 ?_
                            intro a6 n6 c6 W6 HX6 hg6
                            have z0 := HX6.cell
                            have z1 := HX6.frozen
                            try go_simp
                            refine hK _ _ ?_
                            clear hK K
                            refine wpAny_ready (rs := [8]) (by kernel_rfl) (by simp) ?_
                            refine (AllReady.cons rfl (fun K hK => ?_) AllReady.nil)
                            · go_simp
                              refine hK _ _ ?_
                              clear hK K
                              refine wpAny_done (by kernel_rfl) ?_ _
                              gi_wp2
                              obtain ⟨k1, k2, k3, k4⟩ := fin21 HSOK.out HX1.out HK1.out HKO.out HKW'.out hg5 HX5 hg6 HX6
                              exact ⟨k1, k2, ⟨a6, n6, c6, by rw [HCT.out]; exact k3⟩, k4⟩
                    · go_simp
                      refine hK _ _ ?_
                      clear hK K
                      refine wpAny_ready (rs := [1]) (by kernel_rfl) (by simp) ?_
                      refine (AllReady.cons rfl (fun K hK => ?_) AllReady.nil)
                      · go_simp
                        refine hK _ _ ?_
                        clear hK K
                        refine wpAny_ready (rs := [2]) (by kernel_rfl) (by simp) ?_
                        refine (AllReady.cons rfl (fun K hK => ?_) AllReady.nil)
                        · refine step_byte rfl (.tmp 109) (.tmp 110) rfl (HX1.out.drew.alloc _) rfl ⟨W1.heap.size, 0, none⟩ 47 47 rfl rfl (new_cell _ _) hl1 ?_
                          intro a5 n5 c5 W5 HX5 hg5
                          have y0 := HX5.cell
                          have y1 := HX5.frozen
                          have y2 := HPATH.out _ HX5.bel
                          try go_simp
                          refine hK _ _ ?_
                          clear hK K
                          refine wpAny_ready (rs := [7]) (by kernel_rfl) (by simp) ?_
                          refine (AllReady.cons rfl (fun K hK => ?_) AllReady.nil)
                          · refine step_text rfl (.tmp 111) (.tmp 115) rfl HX5 rfl px' rfl hl2 ?_
                            intro a6 n6 c6 W6 HX6 hg6
                            have z0 := HX6.cell
                            have z1 := HX6.frozen
                            try go_simp
                            refine hK _ _ ?_
                            clear hK K
                            refine wpAny_ready (rs := [8]) (by kernel_rfl) (by simp) ?_
                            refine (AllReady.cons rfl (fun K hK => ?_) AllReady.nil)
                            · go_simp
                              refine hK _ _ ?_
                              clear hK K
                              refine wpAny_done (by kernel_rfl) ?_ _
                              gi_wp2
                              obtain ⟨k1, k2, k3, k4⟩ := fin21 HSOK.out HX1.out HK1.out HKO.out HKW'.out hg5 HX5 hg6 HX6
                              exact ⟨k1, k2, ⟨a6, n6, c6, by rw [HCT.out]; exact k3⟩, k4⟩
                  · go_simp
                    refine hK _ _ ?_
                    clear hK K
                    refine wpAny_ready (rs := [0, 6]) (by kernel_rfl) (by simp) ?_
                    refine (AllReady.cons rfl (fun K hK => ?_) (AllReady.cons rfl (fun K hK => ?_) AllReady.nil))
                    · go_simp
                      refine hK _ _ ?_
                      clear hK K
                      refine wpAny_ready (rs := [2, 6]) (by kernel_rfl) (by simp) ?_
                      refine (AllReady.cons rfl (fun K hK => ?_) (AllReady.cons rfl (fun K hK => ?_) AllReady.nil))
                      · refine step_byte rfl (.tmp 109) (.tmp 110) rfl (HX1.out.drew.alloc _) rfl ⟨W1.heap.size, 0, none⟩ 47 47 rfl rfl (new_cell _ _) hl1 ?_
                        intro a5 n5 c5 W5 HX5 hg5
                        have y0 := HX5.cell
                        have y1 := HX5.frozen
                        have y2 := HPATH.out _ HX5.bel
                        try go_simp
                        refine hK _ _ ?_
                        clear hK K
                        refine wpAny_ready (rs := [6]) (by kernel_rfl) (by simp) ?_
                        refine (AllReady.cons rfl (fun K hK => ?_) AllReady.nil)
                        · go_simp
                          refine hK _ _ ?_
                          clear hK K
                          refine wpAny_ready (rs := [7]) (by kernel_rfl) (by simp) ?_
                          refine (AllReady.cons rfl (fun K hK => ?_) AllReady.nil)
                          · refine step_text rfl (.tmp 111) (.tmp 115) rfl HX5 rfl px' rfl hl2 ?_
                            intro a6 n6 c6 W6 HX6 hg6
                            have z0 := HX6.cell
                            have z1 := HX6.frozen
                            try go_simp
                            refine hK _ _ ?_
                            clear hK K
                            refine wpAny_ready (rs := [8]) (by kernel_rfl) (by simp) ?_
                            refine (AllReady.cons rfl (fun K hK => ?_) AllReady.nil)
                            · go_simp
                              refine hK _ _ ?_
                              clear hK K
                              refine wpAny_done (by kernel_rfl) ?_ _
                              gi_wp2
                              obtain ⟨k1, k2, k3, k4⟩ := fin21 HSOK.out HX1.out HK1.out HKO.out HKW'.out hg5 HX5 hg6 HX6
                              exact ⟨k1, k2, ⟨a6, n6, c6, by rw [HCT.out]; exact k3⟩, k4⟩
                      · go_simp
                        refine hK _ _ ?_
                        clear hK K
                        refine wpAny_ready (rs := [2]) (by kernel_rfl) (by simp) ?_
                        refine (AllReady.cons rfl (fun K hK => ?_) AllReady.nil)
                        · refine step_byte rfl (.tmp 109) (.tmp 110) rfl (HX1.out.drew.alloc _) rfl ⟨W1.heap.size, 0, none⟩ 47 47 rfl rfl (new_cell _ _) hl1 ?_
                          intro a5 n5 c5 W5 HX5 hg5
                          have y0 := HX5.cell
                          have y1 := HX5.frozen
                          have y2 := HPATH.out _ HX5.bel
                          try go_simp
                          refine hK _ _ ?_
                          clear hK K
                          refine wpAny_ready (rs := [7]) (by kernel_rfl) (by simp) ?_
                          refine (AllReady.cons rfl (fun K hK => ?_) AllReady.nil)
                          · refine step_text rfl (.tmp 111) (.tmp 115) rfl HX5 rfl px' rfl hl2 ?_
                            intro a6 n6 c6 W6 HX6 hg6
                            have z0 := HX6.cell
                            have z1 := HX6.frozen
                            try go_simp
                            refine hK _ _ ?_
                            clear hK K
                            refine wpAny_ready (rs := [8]) (by kernel_rfl) (by simp) ?_
                            refine (AllReady.cons rfl (fun K hK => ?_) AllReady.nil)
                            · go_simp
                              refine hK _ _ ?_
                              clear hK K
                              refine wpAny_done (by kernel_rfl) ?_ _
                              gi_wp2
                              obtain ⟨k1, k2, k3, k4⟩ := fin21 HSOK.out HX1.out HK1.out HKO.out HKW'.out hg5 HX5 hg6 HX6
                              exact ⟨k1, k2, ⟨a6, n6, c6, by rw [HCT.out]; exact k3⟩, k4⟩
                    · go_simp
                      refine hK _ _ ?_
                      clear hK K
                      refine wpAny_ready (rs := [0]) (by kernel_rfl) (by simp) ?_
                      refine (AllReady.cons rfl (fun K hK => ?_) AllReady.nil)
                      · go_simp
                        refine hK _ _ ?_
                        clear hK K
                        refine wpAny_ready (rs := [2]) (by kernel_rfl) (by simp) ?_
                        refine (AllReady.cons rfl (fun K hK => ?_) AllReady.nil)
                        · refine step_byte rfl (.tmp 109) (.tmp 110) rfl (HX1.out.drew.alloc _) rfl ⟨W1.heap.size, 0, none⟩ 47 47 rfl rfl (new_cell _ _) hl1 ?_
                          intro a5 n5 c5 W5 HX5 hg5
                          have y0 := HX5.cell
                          have y1 := HX5.frozen
                          have y2 := HPATH.out _ HX5.bel
                          try go_simp
                          refine hK _ _ ?_
                          clear hK K
                          refine wpAny_ready (rs := [7]) (by kernel_rfl) (by simp) ?_
                          refine (AllReady.cons rfl (fun K hK => ?_) AllReady.nil)
                          · refine step_text rfl (.tmp 111) (.tmp 115) rfl HX5 rfl px' rfl hl2 ?_
                            intro a6 n6 c6 W6 HX6 hg6
                            have z0 := HX6.cell
                            have z1 := HX6.frozen
                            try go_simp
                            refine hK _ _ ?_
                            clear hK K
                            refine wpAny_ready (rs := [8]) (by kernel_rfl) (by simp) ?_
                            refine (AllReady.cons rfl (fun K hK => ?_) AllReady.nil)
                            · go_simp
                              refine hK _ _ ?_
                              clear hK K
                              refine wpAny_done (by kernel_rfl) ?_ _
                              gi_wp2
                              obtain ⟨k1, k2, k3, k4⟩ := fin21 HSOK.out HX1.out HK1.out HKO.out HKW'.out hg5 HX5 hg6 HX6
                              exact ⟨k1, k2, ⟨a6, n6, c6, by rw [HCT.out]; exact k3⟩, k4⟩
                  · go_simp
                    refine hK _ _ ?_
                    clear hK K
                    refine wpAny_ready (rs := [0, 1]) (by kernel_rfl) (by simp) ?_
                    refine (AllReady.cons rfl (fun K hK => ?_) (AllReady.cons rfl (fun K hK => ?_) AllReady.nil))
                    · go_simp
                      refine hK _ _ ?_
                      clear hK K
                      refine wpAny_ready (rs := [1]) (by kernel_rfl) (by simp) ?_
                      refine (AllReady.cons rfl (fun K hK => ?_) AllReady.nil)
                      · go_simp
                        refine hK _ _ ?_
                        clear hK K
                        refine wpAny_ready (rs := [2]) (by kernel_rfl) (by simp) ?_
                        refine (AllReady.cons rfl (fun K hK => ?_) AllReady.nil)
                        · refine step_byte rfl (.tmp 109) (.tmp 110) rfl (HX1.out.drew.alloc _) rfl ⟨W1.heap.size, 0, none⟩ 47 47 rfl rfl (new_cell _ _) hl1 ?_
                          intro a5 n5 c5 W5 HX5 hg5
                          have y0 := HX5.cell
                          have y1 := HX5.frozen
                          have y2 := HPATH.out _ HX5.bel
                          try go_simp
                          refine hK _ _ ?_
                          clear hK K
                          refine wpAny_ready (rs := [7]) (by kernel_rfl) (by simp) ?_
                          refine (AllReady.cons rfl (fun K hK => ?_) AllReady.nil)
                          · refine step_text rfl (.tmp 111) (.tmp 115) rfl HX5 rfl px' rfl hl2 ?_
                            intro a6 n6 c6 W6 HX6 hg6
                            have z0 := HX6.cell
                            have z1 := HX6.frozen
                            try go_simp
                            refine hK _ _ ?_
                            clear hK K
                            refine wpAny_ready (rs := [8]) (by kernel_rfl) (by simp) ?_
                            refine (AllReady.cons rfl (fun K hK => ?_) AllReady.nil)
                            · go_simp
                              refine hK _ _ ?_
                              clear hK K
                              refine wpAny_done (by kernel_rfl) ?_ _
                              gi_wp2
                              obtain ⟨k1, k2, k3, k4⟩ := fin21 HSOK.out HX1.out HK1.out HKO.out HKW'.out hg5 HX5 hg6 HX6
                              exact ⟨k1, k2, ⟨a6, n6, c6, by rw [HCT.out]; exact k3⟩, k4⟩
                    · go_simp
                      refine hK _ _ ?_
                      clear hK K
                      refine wpAny_ready (rs := [0]) (by kernel_rfl) (by simp) ?_
                      refine (AllReady.cons rfl (fun K hK => ?_) AllReady.nil)
                      · go_simp
                        refine hK _ _ ?_
                        clear hK K
                        refine wpAny_ready (rs := [2]) (by kernel_rfl) (by simp) ?_
                        refine (AllReady.cons rfl (fun K hK => ?_) AllReady.nil)
                        · refine step_byte rfl (.tmp 109) (.tmp 110) rfl (HX1.out.drew.alloc _) rfl ⟨W1.heap.size, 0, none⟩ 47 47 rfl rfl (new_cell _ _) hl1 ?_
                          intro a5 n5 c5 W5 HX5 hg5
                          have y0 := HX5.cell
                          have y1 := HX5.frozen
                          have y2 := HPATH.out _ HX5.bel
                          try go_simp
                          refine hK _ _ ?_
                          clear hK K
                          refine wpAny_ready (rs := [7]) (by kernel_rfl) (by simp) ?_
                          refine (AllReady.cons rfl (fun K hK => ?_) AllReady.nil)
                          · refine step_text rfl (.tmp 111) (.tmp 115) rfl HX5 rfl px' rfl hl2 ?_
                            intro a6 n6 c6 W6 HX6 hg6
                            have z0 := HX6.cell
                            have z1 := HX6.frozen
                            try go_simp
                            refine hK _ _ ?_
                            clear hK K
                            refine wpAny_ready (rs := [8]) (by kernel_rfl) (by simp) ?_
                            refine (AllReady.cons rfl (fun K hK => ?_) AllReady.nil)
                            · go_simp
                              refine hK _ _ ?_
                              clear hK K
                              refine wpAny_done (by kernel_rfl) ?_ _
                              gi_wp2
                              obtain ⟨k1, k2, k3, k4⟩ := fin21 HSOK.out HX1.out HK1.out HKO.out HKW'.out hg5 HX5 hg6 HX6
                              exact ⟨k1, k2, ⟨a6, n6, c6, by rw [HCT.out]; exact k3⟩, k4⟩
            case done =>
              rintro D xs W hD rfl ⟨⟨av, nv, cv, HXW⟩, _⟩ hK
              have hcv := buf_conv HXW.buf
              have x0 := HXW.cell
              have hbd : Below w.heap.size w (W.putObj D (.deferred none)) := HXW.bel.trans (belowK_b (w := w) (Nat.le_refl _) W D _ _ (Nat.le_trans HXS.out.le hD) hK rfl rfl)
              have HBD : Hid (Below w.heap.size w (W.putObj D (.deferred none))) := hbd
              have HEQ : Hid (PR ++ accT pth pj.data.toList (dn j j) = PR ++ chain (List.map pth (List.range (j + 1)))) := by show _ = _; rw [← HPJ.out, accT_all]
              clear HXW hbd
              obtain ⟨TT, hTT⟩ : ∃ TT, TT = PR ++ accT pth pj.data.toList (dn j j) := ⟨_, rfl⟩
              have HTT : Hid (TT = PR ++ accT pth pj.data.toList (dn j j)) := hTT
              rw [← hTT] at hcv
              clear hTT
              go_wp2
              refine ⟨by simp, .inl ⟨_, _, rfl, run_takeDeferred hK, ?_⟩⟩
              exact ⟨_, results_tmp rfl _ _ _, by rw [HPRE.out, ← HEQ.out, ← HTT.out]; rfl, HBD.out⟩
            case stop =>
              rintro D c pre W _ _ h _
              exact h.elim
end Go.Proofs.Qxb6602852a
