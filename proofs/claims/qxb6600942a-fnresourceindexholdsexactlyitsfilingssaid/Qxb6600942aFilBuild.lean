import Derived.Test.Qxb6600942aFilClone
import Derived.Deep.RegionHeld3
namespace Go.Proofs.Qxb6600942a
open Go.RowKit
set_option linter.unusedVariables false

theorem make_any (b p : ByteArray) (l s : Int) (w : World) :
    Calls Try.prog 36 #[.string b, .int .u8 l, .string p, .int .i64 s] w fun e w' => e = .returned (.agg #[.string b, .int .u8 l, .string p, .int .i64 s]) ∧ ∃ o, w' = w.alloc o := by
  go_enter Try.func36, Try.ntmps36
  go_wp2
  exact bodyPost_ret (v := .agg #[.string b, .int .u8 l, .string p, .int .i64 s]) (by simp [results, Try.results36, go_sem]) rfl ⟨rfl, _, rfl⟩

/-- An index as a value: what newResourceIndex hands back. -/
def ixv (a1 : Option Addr) (n1 c1 : Nat) (a2 : Option Addr) (n2 c2 : Nat) : Value := .agg #[.slice none 0 0, .slice a1 n1 c1, .slice a2 n2 c2]

set_option maxRecDepth 100000 in
set_option maxHeartbeats 2000000 in
/-- buildIndex, given what newResourceIndex answers. -/
theorem build_any (a : Option Addr) (n cap : Nat) (fs : List Fil) (w : World) (hS : Fils w a n cap fs) (hn : n ≤ 1048576) (I : Value → World → Prop)
    (hst : ∀ v (W W' : World), I v W → (∀ k, w.heap.size + 1 ≤ k → k < W.heap.size → W'.heap[k]? = W.heap[k]?) → I v W')
    (hI : ∀ (g : Nat) (w1 : World), Fils w1 (some ⟨g, 0, none⟩) n n fs → w.heap.size + 1 ≤ w1.heap.size → Calls Try.prog 37 #[.slice (some ⟨g, 0, none⟩) n n] w1 fun e w' => ∃ a1 n1 c1 a2 n2 c2, e = .returned (ixv a1 n1 c1 a2 n2 c2) ∧ I (ixv a1 n1 c1 a2 n2 c2) w' ∧ Below w1.heap.size w1 w') :
    Calls Try.prog 18 #[.slice a n cap] w fun e w' => ∃ a1 n1 c1 a2 n2 c2, e = .returned (ixv a1 n1 c1 a2 n2 c2) ∧ I (ixv a1 n1 c1 a2 n2 c2) w' ∧ Below w.heap.size w w' := by
  obtain ⟨i0, hi, hz0, hz1, hz2⟩ := info_parts Try.info65
  have HS : Hid (Fils w a n cap fs) := hS
  have HST : Hid (∀ v (W W' : World), I v W → (∀ k, w.heap.size + 1 ≤ k → k < W.heap.size → W'.heap[k]? = W.heap[k]?) → I v W') := hst
  have HI : Hid (∀ (g : Nat) (w1 : World), Fils w1 (some ⟨g, 0, none⟩) n n fs → w.heap.size + 1 ≤ w1.heap.size → Calls Try.prog 37 #[.slice (some ⟨g, 0, none⟩) n n] w1 fun e w' => ∃ a1 n1 c1 a2 n2 c2, e = .returned (ixv a1 n1 c1 a2 n2 c2) ∧ I (ixv a1 n1 c1 a2 n2 c2) w' ∧ Below w1.heap.size w1 w') := hI
  clear hS hst hI
  go_enter Try.func18, Try.ntmps18
  go_wp2_with (at_make; refine wpList_make_full _ rfl _ _ 62 rfl (w.heap.size + 1) 65 i0 (.agg #[.string ByteArray.empty, .int .u8 0, .string ByteArray.empty, .int .i64 0]) 4 Try.underlying62 hi hz0 hz1 .i64 .i64 _ _ n rfl rfl rfl rfl (by rw [hz2]; omega) (by unfold maxLen; omega) (by simp) ?_; intro w1 hown1 hg1)
  have hb1 : Below (w.heap.size + 1) (w.alloc (.cells #[.slice none 0 0, .slice none 0 0, .slice none 0 0] 39)) w1 := (Below.refl _ _).grown hg1 (by simp) (fun k h => by simp at h)
  rw [show (Value.agg #[.string ByteArray.empty, .int .u8 0, .string ByteArray.empty, .int .i64 0]).cells = #[.string ByteArray.empty, .int .u8 0, .string ByteArray.empty, .int .i64 0] from rfl, filRow_zero n] at hown1
  rw [World.size_alloc] at hown1
  clear hg1
  go_loopw [4] (fun i wr => ∃ (k : Nat) (h : Nat → Fil), k ≤ n ∧ i = .int .i64 k ∧ Hid (∀ j, j < k → h j = fl fs j) ∧ wr.ownsRow (w.heap.size + 1) 65 4 (.slice (some ⟨w.heap.size + 1, 0, none⟩) n n) n (filRow h n) ∧ Below (w.heap.size + 1) (w.alloc (.cells #[.slice none 0 0, .slice none 0 0, .slice none 0 0] 39)) wr) (fun i _ => n - (intOf i).toNat)
  case atStart => exact ⟨0, _, by omega, rfl, (fun j hj => by omega), hown1, hb1⟩
  case round =>
    clear hown1 hb1
    obtain ⟨k, h, hk, rfl, HF, hown, hbr⟩ := hrel
    by_cases hlt : k < n
    · obtain ⟨yb, yo, rfl, F, hyl⟩ := HS.out.at hlt
      have hbl : wr.heap[yb]? = w.heap[yb]? := (hbr.block yb (by omega)).trans (Below.heap_alloc _ _ _ hyl)
      obtain ⟨c0, c1, c2, c3⟩ := F.of_block hbl
      have hyw : yb < wr.heap.size := (F.of_block hbl).lt
      have HF' : Hid (∀ j, j < k + 1 → putF h k (fl fs k) j = fl fs j) := putF_to HF.out
      generalize hfk : fl fs k = f at HF' c0 c1 c2 c3
      obtain ⟨b1, l1, p1, s1⟩ := f
      dsimp only at c0 c1 c2 c3
      have i1 : (k : Int) < n := by omega
      have hne : yb ≠ w.heap.size + 1 := by omega
      have hsz : w.heap.size + 1 < wr.heap.size := own_lt hown
      have hsn : wr.heap.size ≠ w.heap.size + 1 := by omega
      have e0 : wr.cell? ⟨w.heap.size + 1, k * 4, none⟩ = some (filCell h (k * 4)) := by rw [hown.cellAt _ (by omega), filRow_get _ (by omega)]
      have g0 := fun o => (hown.alloc o).frozenAt (k * 4)
      have f0 := hown.frozenAt (k * 4)
      have e1 : wr.cell? ⟨w.heap.size + 1, k * 4 + 1, none⟩ = some (filCell h (k * 4 + 1)) := by rw [hown.cellAt _ (by omega), filRow_get _ (by omega)]
      have g1 := fun o => (hown.alloc o).frozenAt (k * 4 + 1)
      have f1 := hown.frozenAt (k * 4 + 1)
      have e2 : wr.cell? ⟨w.heap.size + 1, k * 4 + 2, none⟩ = some (filCell h (k * 4 + 2)) := by rw [hown.cellAt _ (by omega), filRow_get _ (by omega)]
      have g2 := fun o => (hown.alloc o).frozenAt (k * 4 + 2)
      have f2 := hown.frozenAt (k * 4 + 2)
      have e3 : wr.cell? ⟨w.heap.size + 1, k * 4 + 3, none⟩ = some (filCell h (k * 4 + 3)) := by rw [hown.cellAt _ (by omega), filRow_get _ (by omega)]
      have g3 := fun o => (hown.alloc o).frozenAt (k * 4 + 3)
      have f3 := hown.frozenAt (k * 4 + 3)
      have HR : Hid (∀ o, (((((wr.setCell ⟨w.heap.size + 1, k * 4, none⟩ (.string b1)).setCell ⟨w.heap.size + 1, k * 4 + 1, none⟩ (.int .u8 l1)).setCell ⟨w.heap.size + 1, k * 4 + 2, none⟩ (.string p1)).setCell ⟨w.heap.size + 1, k * 4 + 3, none⟩ (.int .i64 s1)).alloc o).drew.ownsRow (w.heap.size + 1) 65 4 (.slice (some ⟨w.heap.size + 1, 0, none⟩) n n) n (filRow (putF h k ⟨b1, l1, p1, s1⟩) n)) := fun o => ((fil_stored (f := ⟨b1, l1, p1, s1⟩) hown k).alloc o).drew
      have hbs : Below (w.heap.size + 1) (w.alloc (.cells #[.slice none 0 0, .slice none 0 0, .slice none 0 0] 39)) ((((wr.setCell ⟨w.heap.size + 1, k * 4, none⟩ (.string b1)).setCell ⟨w.heap.size + 1, k * 4 + 1, none⟩ (.int .u8 l1)).setCell ⟨w.heap.size + 1, k * 4 + 2, none⟩ (.string p1)).setCell ⟨w.heap.size + 1, k * 4 + 3, none⟩ (.int .i64 s1)) := (((hbr.setCell (Nat.le_refl _) _).setCell (Nat.le_refl _) _).setCell (Nat.le_refl _) _).setCell (Nat.le_refl _) _
      have HBS : Hid (∀ o, Below (w.heap.size + 1) (w.alloc (.cells #[.slice none 0 0, .slice none 0 0, .slice none 0 0] 39)) (((((wr.setCell ⟨w.heap.size + 1, k * 4, none⟩ (.string b1)).setCell ⟨w.heap.size + 1, k * 4 + 1, none⟩ (.int .u8 l1)).setCell ⟨w.heap.size + 1, k * 4 + 2, none⟩ (.string p1)).setCell ⟨w.heap.size + 1, k * 4 + 3, none⟩ (.int .i64 s1)).alloc o).drew) := fun o => (hbs.alloc (by have := hbs.size; simpa using this) o).drew
      clear hbs
      clear hown F hfk hbl
      go_wp2
      go_region_held3 (fun w' => w'.cell? ⟨yb, yo + k * 4, none⟩ = some (.string b1) ∧ w'.cell? ⟨yb, yo + k * 4 + 1, none⟩ = some (.int .u8 l1) ∧ w'.cell? ⟨yb, yo + k * 4 + 2, none⟩ = some (.string p1) ∧ w'.cell? ⟨yb, yo + k * 4 + 3, none⟩ = some (.int .i64 s1)) (simp [*, go_sem, World.cell?_alloc_past]) ((go_at_call 36; refine (make_any b1 p1 l1 s1 _).mono ?_; rintro e w5 ⟨rfl, o5, rfl⟩))
      go_wp2
      go_roundw
      case rel => exact ⟨k + 1, _, by omega, by go_num, HF', HR.out _, HBS.out _⟩
      case measure => simp [intOf]; omega
    · obtain rfl : k = n := by omega
      have HFI : Hid (Fils wr (some ⟨w.heap.size + 1, 0, none⟩) k k fs) := fils_of_row HS.out.1 HF.out hown
      have hsz : w.heap.size + 1 < wr.heap.size := own_lt hown
      clear hown
      go_wp2_with fail
      refine (HI.out _ _ HFI.out (by omega)).mono ?_
      rintro e w2 ⟨a1, n1, c1, a2, n2, c2, rfl, hI2, hb2⟩
      unfold ixv at *
      have hblk : w2.heap[w.heap.size]? = some (.cells #[.slice none 0 0, .slice none 0 0, .slice none 0 0] 39) := by
        rw [hb2.block _ (by omega), hbr.block _ (by omega)]; exact heap_alloc_new _ _
      have g0 : w2.cell? ⟨w.heap.size, 0, none⟩ = some (.slice none 0 0) := by simp [World.cell?, hblk]
      have g1 : w2.cell? ⟨w.heap.size, 1, none⟩ = some (.slice none 0 0) := by simp [World.cell?, hblk]
      have g2 : w2.cell? ⟨w.heap.size, 2, none⟩ = some (.slice none 0 0) := by simp [World.cell?, hblk]
      have f0 : ∀ j, w2.frozen? ⟨w.heap.size, j, none⟩ = false := fun j => by simp [World.frozen?, hblk]
      have HI2 : Hid (I (.agg #[.slice none 0 0, .slice a1 n1 c1, .slice a2 n2 c2]) w2) := hI2
      have hbb : Below w.heap.size w w2 := (((Below.refl _ _).alloc (Nat.le_refl _) _).trans (hbr.mono (by omega))).trans (hb2.mono (by omega))
      clear hI2 hblk
      have e0 : ∀ u, (w2.setCell ⟨w.heap.size, 0, none⟩ u).cell? ⟨w.heap.size, 1, none⟩ = some (.slice none 0 0) := fun u => by rw [World.cell?_setCell_other _ _ _ _ (by simp)]; exact g1
      go_wp2
      refine bodyPost_ret (v := .agg #[.slice none 0 0, .slice a1 n1 c1, .slice a2 n2 c2]) ?_ rfl ⟨a1, n1, c1, a2, n2, c2, rfl, HST.out _ _ _ HI2.out ?_, ?_⟩
      · simp [results, Try.results18, go_sem, g0, g1, g2]
      · intro j hj1 hj2
        rw [Below.heap_setCell _ _ _ _ (by simp; omega), Below.heap_setCell _ _ _ _ (by simp; omega), Below.heap_setCell _ _ _ _ (by simp; omega)]
      · exact ((hbb.setCell (Nat.le_refl _) _).setCell (Nat.le_refl _) _).setCell (Nat.le_refl _) _
end Go.Proofs.Qxb6600942a
