import Derived.Test.Qxb6600942aFil
namespace Go.Proofs.Qxb6600942a
open Go.RowKit
set_option linter.unusedVariables false

theorem Try.info53 : (Try.prog.info? 53).map (fun i => (i.zero, i.size, i.bytes)) = some (some (.agg #[.string ByteArray.empty, .int .u8 0, .string ByteArray.empty, .int .i64 0]), 4, 48) := by kernel_rfl
theorem Try.info65 : (Try.prog.info? 65).map (fun i => (i.zero, i.size, i.bytes)) = some (some (.agg #[.string ByteArray.empty, .int .u8 0, .string ByteArray.empty, .int .i64 0]), 4, 48) := by kernel_rfl

/-- Cell c of a row of filings that a function gives. -/
def filCell (g : Nat → Fil) (c : Nat) : Value :=
  if c % 4 = 0 then .string (g (c / 4)).b else if c % 4 = 1 then .int .u8 (g (c / 4)).l else if c % 4 = 2 then .string (g (c / 4)).p else .int .i64 (g (c / 4)).s
def filRow (g : Nat → Fil) (n : Nat) : List Value := (List.range (n * 4)).map (filCell g)
def putF (g : Nat → Fil) (k : Nat) (f : Fil) : Nat → Fil := fun j => if j = k then f else g j
theorem filRow_length (g : Nat → Fil) (n : Nat) : (filRow g n).length = n * 4 := by simp [filRow]
theorem filRow_get (g : Nat → Fil) {n c : Nat} (h : c < n * 4) : (filRow g n)[c]? = some (filCell g c) := by simp [filRow, h]
theorem filRow_zero (n : Nat) : (madeCells #[.string ByteArray.empty, .int .u8 0, .string ByteArray.empty, .int .i64 0] (n * 4)).toList = filRow (fun _ => fil0) n := by
  apply List.ext_getElem?
  intro c
  by_cases h : c < n * 4
  · rw [filRow_get _ h]
    simp only [madeCells, filCell, fil0]
    rcases (show c % 4 = 0 ∨ c % 4 = 1 ∨ c % 4 = 2 ∨ c % 4 = 3 from by omega) with e | e | e | e <;> simp [h, e]
  · rw [List.getElem?_eq_none (by simp [madeCells]; omega), List.getElem?_eq_none (by rw [filRow_length]; omega)]
theorem filRow_set (g : Nat → Fil) (n k : Nat) (f : Fil) :
    ((((filRow g n).set (k * 4) (.string f.b)).set (k * 4 + 1) (.int .u8 f.l)).set (k * 4 + 2) (.string f.p)).set (k * 4 + 3) (.int .i64 f.s) = filRow (putF g k f) n := by
  apply List.ext_getElem?
  intro c
  by_cases h : c < n * 4
  · simp only [List.getElem?_set, List.length_set, filRow_length, filRow_get _ h]
    by_cases e3 : k * 4 + 3 = c
    · subst e3
      have a : (k * 4 + 3) % 4 = 3 := by omega
      have b : (k * 4 + 3) / 4 = k := by omega
      simp [filCell, putF, a, b, h]
    · rw [if_neg e3]
      by_cases e2 : k * 4 + 2 = c
      · subst e2
        have a : (k * 4 + 2) % 4 = 2 := by omega
        have b : (k * 4 + 2) / 4 = k := by omega
        simp [filCell, putF, a, b, h]
      · rw [if_neg e2]
        by_cases e1 : k * 4 + 1 = c
        · subst e1
          have a : (k * 4 + 1) % 4 = 1 := by omega
          have b : (k * 4 + 1) / 4 = k := by omega
          simp [filCell, putF, a, b, h]
        · rw [if_neg e1]
          by_cases e0 : k * 4 = c
          · subst e0
            have a : (k * 4) % 4 = 0 := by omega
            have b : (k * 4) / 4 = k := by omega
            simp [filCell, putF, a, b, h]
          · rw [if_neg e0]
            have : c / 4 ≠ k := by omega
            simp only [filCell, putF, this, if_false]
  · rw [List.getElem?_eq_none (by simp [filRow_length]; omega), List.getElem?_eq_none (by rw [filRow_length]; omega)]
theorem fils_of_row {w : World} {B e g n cap : Nat} {fs : List Fil} {h : Nat → Fil} (hl : fs.length = n) (hf : ∀ j, j < n → h j = fl fs j) (hown : w.ownsRow B e 4 (.slice (some ⟨g, 0, none⟩) n cap) n (filRow h n)) : Fils w (some ⟨g, 0, none⟩) n cap fs := by
  refine ⟨hl, fun h => (by cases h), fun hn => ⟨g, 0, rfl, fun j hj => ?_⟩⟩
  rw [← hf j hj, Nat.zero_add]
  refine ⟨?_, ?_, ?_, ?_⟩
  · rw [hown.cellAt _ (by omega), filRow_get _ (by omega), filCell, if_pos (by omega), show j * 4 / 4 = j from by omega]
  · rw [hown.cellAt _ (by omega), filRow_get _ (by omega), filCell, if_neg (by omega), if_pos (by omega), show (j * 4 + 1) / 4 = j from by omega]
  · rw [hown.cellAt _ (by omega), filRow_get _ (by omega), filCell, if_neg (by omega), if_neg (by omega), if_pos (by omega), show (j * 4 + 2) / 4 = j from by omega]
  · rw [hown.cellAt _ (by omega), filRow_get _ (by omega), filCell, if_neg (by omega), if_neg (by omega), if_neg (by omega), show (j * 4 + 3) / 4 = j from by omega]
/-- One filing laid into an owned row. -/
theorem fil_stored {w : World} {B e g n cap : Nat} {h : Nat → Fil} (hown : w.ownsRow B e 4 (.slice (some ⟨g, 0, none⟩) n cap) n (filRow h n)) (k : Nat) (f : Fil) :
    ((((w.setCell ⟨g, k * 4, none⟩ (.string f.b)).setCell ⟨g, k * 4 + 1, none⟩ (.int .u8 f.l)).setCell ⟨g, k * 4 + 2, none⟩ (.string f.p)).setCell ⟨g, k * 4 + 3, none⟩ (.int .i64 f.s)).ownsRow B e 4 (.slice (some ⟨g, 0, none⟩) n cap) n (filRow (putF h k f) n) := by
  have R := ((((hown.stored (k * 4) (.string f.b)).1.stored (k * 4 + 1) (.int .u8 f.l)).1.stored (k * 4 + 2) (.string f.p)).1.stored (k * 4 + 3) (.int .i64 f.s)).1
  rw [filRow_set] at R
  exact R
theorem putF_to {h : Nat → Fil} {fs : List Fil} {k : Nat} (hf : ∀ j, j < k → h j = fl fs j) : ∀ j, j < k + 1 → putF h k (fl fs k) j = fl fs j := by
  intro j hj
  by_cases e : j = k
  · simp [putF, e]
  · simp only [putF, e, if_false]; exact hf j (by omega)

theorem fclone_nil (n cap : Nat) (w : World) :
    Calls Try.prog 17 #[.slice none n cap] w fun e w' => e = .returned (.slice none 0 0) ∧ w = w' := by
  have hne := fun wx => Lib.run_eql_slice_nil (P := Try.prog) wx 31 53 none n cap 0 0 Try.underlying31
  go_enter Try.func17, Try.ntmps17
  go_wp2
  go_ret
  exact ⟨rfl, rfl⟩
set_option maxHeartbeats 1000000 in
theorem fclone_some (x : Addr) (n cap : Nat) (fs : List Fil) (w : World) (hS : Fils w (some x) n cap fs) (hn : n ≤ 1048576) :
    Calls Try.prog 17 #[.slice (some x) n cap] w fun e w' => e = .returned (.slice (some ⟨w.heap.size, 0, none⟩) n n) ∧ Fils w' (some ⟨w.heap.size, 0, none⟩) n n fs ∧ Below w.heap.size w w' := by
  obtain ⟨i0, hi, hz0, hz1, hz2⟩ := info_parts Try.info53
  have hne := fun wx => Lib.run_eql_slice_nil (P := Try.prog) wx 31 53 (some x) n cap 0 0 Try.underlying31
  have HS : Hid (Fils w (some x) n cap fs) := hS
  clear hS
  go_enter Try.func17, Try.ntmps17
  go_wp2_with (at_make; refine wpList_make_full _ rfl _ _ 31 rfl w.heap.size 53 i0 (.agg #[.string ByteArray.empty, .int .u8 0, .string ByteArray.empty, .int .i64 0]) 4 Try.underlying31 hi hz0 hz1 .i64 .i64 _ _ n rfl rfl rfl rfl (by rw [hz2]; omega) (by unfold maxLen; omega) (Nat.le_refl _) ?_; intro w1 hown1 hg1)
  have hb1 : Below w.heap.size w w1 := (Below.refl _ _).grown hg1 (Nat.le_refl _) (fun k h => by simp at h)
  rw [show (Value.agg #[.string ByteArray.empty, .int .u8 0, .string ByteArray.empty, .int .i64 0]).cells = #[.string ByteArray.empty, .int .u8 0, .string ByteArray.empty, .int .i64 0] from rfl, filRow_zero n] at hown1
  clear hg1
  go_loopw [4] (fun i wr => ∃ (k : Nat) (h : Nat → Fil), k ≤ n ∧ i = .int .i64 k ∧ Hid (∀ j, j < k → h j = fl fs j) ∧ wr.ownsRow w.heap.size 53 4 (.slice (some ⟨w.heap.size, 0, none⟩) n n) n (filRow h n) ∧ Below w.heap.size w wr) (fun i _ => n - (intOf i).toNat)
  case atStart => exact ⟨0, _, by omega, rfl, (fun j hj => by omega), hown1, hb1⟩
  case round =>
    clear hown1 hb1
    obtain ⟨k, h, hk, rfl, HF, hown, hbr⟩ := hrel
    by_cases hlt : k < n
    · obtain ⟨yb, yo, hx, F, hyl⟩ := HS.out.at hlt
      cases hx
      obtain ⟨c0, c1, c2, c3⟩ := F.of_block (hbr.block yb hyl)
      have e0 : wr.cell? ⟨w.heap.size, k * 4, none⟩ = some (filCell h (k * 4)) := by rw [hown.cellAt _ (by omega), filRow_get _ (by omega)]
      have e1 : wr.cell? ⟨w.heap.size, k * 4 + 1, none⟩ = some (filCell h (k * 4 + 1)) := by rw [hown.cellAt _ (by omega), filRow_get _ (by omega)]
      have e2 : wr.cell? ⟨w.heap.size, k * 4 + 2, none⟩ = some (filCell h (k * 4 + 2)) := by rw [hown.cellAt _ (by omega), filRow_get _ (by omega)]
      have e3 : wr.cell? ⟨w.heap.size, k * 4 + 3, none⟩ = some (filCell h (k * 4 + 3)) := by rw [hown.cellAt _ (by omega), filRow_get _ (by omega)]
      have f0 := hown.frozenAt (k * 4)
      have f1 := hown.frozenAt (k * 4 + 1)
      have f2 := hown.frozenAt (k * 4 + 2)
      have f3 := hown.frozenAt (k * 4 + 3)
      have HR := fil_stored hown k (fl fs k)
      have HF' : Hid (∀ j, j < k + 1 → putF h k (fl fs k) j = fl fs j) := putF_to HF.out
      generalize hfk : fl fs k = f at HR HF' c0 c1 c2 c3
      obtain ⟨b1, l1, p1, s1⟩ := f
      dsimp only at HR c0 c1 c2 c3
      have HRR : Hid ((((((wr.setCell ⟨w.heap.size, k * 4, none⟩ (.string b1)).setCell ⟨w.heap.size, k * 4 + 1, none⟩ (.int .u8 l1)).setCell ⟨w.heap.size, k * 4 + 2, none⟩ (.string p1)).setCell ⟨w.heap.size, k * 4 + 3, none⟩ (.int .i64 s1)).ownsRow w.heap.size 53 4 (.slice (some ⟨w.heap.size, 0, none⟩) n n) n (filRow (putF h k ⟨b1, l1, p1, s1⟩) n))) := HR
      clear hown HR F hfk
      go_wp2
      go_roundw
      case rel => exact ⟨k + 1, _, by omega, by go_num, HF', HRR.out, (((hbr.setCell (Nat.le_refl _) _).setCell (Nat.le_refl _) _).setCell (Nat.le_refl _) _).setCell (Nat.le_refl _) _⟩
      case measure => simp [intOf]; omega
    · obtain rfl : k = n := by omega
      go_wp2
      go_ret
      exact ⟨rfl, fils_of_row HS.out.1 HF.out hown, hbr⟩
theorem fclone_any (a : Option Addr) (n cap : Nat) (fs : List Fil) (w : World) (hS : Fils w a n cap fs) (hn : n ≤ 1048576) :
    Calls Try.prog 17 #[.slice a n cap] w fun e w' => ∃ a' : Option Addr, e = .returned (.slice a' n n) ∧ Fils w' a' n n fs ∧ Below w.heap.size w w' := by
  cases a with
  | none =>
    obtain ⟨rfl, rfl⟩ := hS.2.1 rfl
    refine (fclone_nil 0 0 w).mono ?_
    rintro e w' ⟨rfl, rfl⟩
    exact ⟨none, rfl, hS, Below.refl _ _⟩
  | some x =>
    refine (fclone_some x n cap fs w hS hn).mono ?_
    rintro e w' ⟨rfl, h, hb⟩
    exact ⟨_, rfl, h, hb⟩
end Go.Proofs.Qxb6600942a
