import Derived.Test.Qxb6600942aRepeats
import Derived.Maps.OwnOps
import Derived.Maps.Views
namespace Go.Proofs.Qxb6600942a
open Go.RowKit
open Go.WideMaps (keyOf_string_mk)
open Go.Maps (Keyed string_keyed IsMap atKey_put_same atKey_put_other)
set_option linter.unusedVariables false

theorem law9 : Keyed Try.prog 9 := string_keyed Try.underlying9
theorem zero4 (w : World) : (zeroValue 4).run Try.prog w = .ok (.bool false) w := by kernel_rfl

theorem plainElem_bool_inv {H : Type} {P : Program} {e : TypeId} (he : P.underlying e = some .bool) {v : Value} {z : DataW H × List MemPlace} (h : plainElem P e v = some z) : ∃ b, v = .bool b ∧ z = (.lit (.bool b), []) := by
  unfold plainElem at h
  rw [he] at h
  cases v <;> simp at h
  exact ⟨_, rfl, h.symm⟩
theorem lookup_bool {H : Type} {P : Program} {w : World} {k t e : TypeId} {b n : Nat} {D : DataW H} (h : w.ownsMap P k (plainElem P e) b n D) (K : Keyed P k) (ht : P.underlying t = some (.map k e)) (he : P.underlying e = some .bool) (hz : (zeroValue e).run P w = .ok (.bool false) w)
    {key : Value} {kl : Lit} (hkey : keyOf P k key = some kl) : ∃ c, (Instr.lookup t (.map (some b)) key false).run P w = .ok (.bool c) w ∧ D.atKey kl (.lit (.bool false)) = .lit (.bool c) := by
  obtain ⟨v, ps, hrun, hv⟩ := h.lookup K ht hz (plainElem_bool he false) hkey
  obtain ⟨c, rfl, hc⟩ := plainElem_bool_inv he hv
  simp only [Prod.mk.injEq] at hc
  exact ⟨c, hrun, hc.1⟩
theorem make_map (n : Nat) (w : World) : (Instr.makeMap 75 (some (.int .i64 (n : Int)))).run Try.prog w = .ok (.map (some w.heap.size)) (w.alloc (.map #[] 0)) := by
  simp [Instr.makeMap, run_underlying Try.underlying75, asInt, asIntOf]

/-- D holds just the first k names. -/
def SetIs (D : DataW Unit) (ss : List ByteArray) (k : Nat) : Prop :=
  IsMap D ∧ ∀ s : ByteArray, (D.atKey (.string s.data.toList) (.lit (.bool false)) = .lit (.bool true) ↔ ∃ i, i < k ∧ nm ss i = s)
theorem SetIs.zero (ss : List ByteArray) : SetIs (.map []) ss 0 := by
  refine ⟨⟨[], rfl⟩, fun s => ⟨fun h => ?_, fun ⟨i, hi, _⟩ => by omega⟩⟩
  simp [DataW.atKey] at h
theorem SetIs.succ {D : DataW Unit} {ss : List ByteArray} {k : Nat} (h : SetIs D ss k) : SetIs (D.put (.string (nm ss k).data.toList) (.lit (.bool true))) ss (k + 1) := by
  refine ⟨h.1.put _ _, fun s => ?_⟩
  by_cases e : s = nm ss k
  · subst e
    rw [atKey_put_same h.1 (by trivial)]
    exact ⟨fun _ => ⟨k, by omega, rfl⟩, fun _ => rfl⟩
  · rw [atKey_put_other (fun h => e (by cases s; cases hk : nm ss k; rw [hk] at h; simp at h; rw [h]))]
    rw [h.2 s]
    constructor
    · rintro ⟨i, hi, hs⟩; exact ⟨i, by omega, hs⟩
    · rintro ⟨i, hi, hs⟩
      by_cases ek : i = k
      · subst ek; exact absurd hs.symm e
      · exact ⟨i, by omega, hs⟩
theorem SetIs.look {D : DataW Unit} {ss : List ByteArray} {k B m : Nat} {w : World} (h : SetIs D ss k) (hown : w.ownsMap Try.prog 9 (plainElem Try.prog 4) B m D) (s : ByteArray) (hs : s.size ≤ maxLen) (c : Bool) (hc : c = true ↔ ∃ i, i < k ∧ nm ss i = s) (o : Obj) :
    (Instr.lookup 75 (.map (some B)) (.string s) false).run Try.prog (w.alloc o) = .ok (.bool c) (w.alloc o) := by
  obtain ⟨c', hrun, hat⟩ := lookup_bool (hown.alloc o) law9 Try.underlying75 Try.underlying4 (zero4 _) (keyOf_string_mk Try.underlying9 hs)
  have e : c' = c := by
    have h2 := h.2 s
    rw [hat] at h2
    cases c'
    · cases c
      · rfl
      · exact absurd (h2.2 (hc.1 rfl)) (by simp)
    · cases c
      · exact absurd (hc.2 (h2.1 rfl)) (by simp)
      · rfl
  rw [← e]; exact hrun

set_option maxHeartbeats 1000000 in
/-- repeatsName at more than eight members. -/
theorem rep_big (g n cap : Nat) (ss : List ByteArray) (w : World) (hM : MRow w g n ss) (hn : 8 < n) (hn2 : n ≤ 1048576) (hsz : ∀ i, (nm ss i).size ≤ maxLen) :
    Calls Try.prog 34 #[.slice (some ⟨g, 0, none⟩) n cap] w fun e w' => ∃ b : Bool, e = .returned (.bool b) ∧ (b = true ↔ Dup ss) ∧ Below w.heap.size w w' := by
  have hmk := make_map n
  have HM : Hid (MRow w g n ss) := hM
  have HSZ : Hid (∀ i, (nm ss i).size ≤ maxLen) := hsz
  have hg : g < w.heap.size := hM.1
  have d8 : decide ((8 : Int) < (n : Int)) = true := decide_eq_true (by omega)
  clear hM hsz
  go_enter Try.func34, Try.ntmps34
  go_wp2
  go_loopw [17] (fun i wr => ∃ (k : Nat) (D : DataW Unit), k ≤ n ∧ i = .int .i64 k ∧ Hid (NoDup ss k) ∧ Hid (SetIs D ss k) ∧ wr.ownsMap Try.prog 9 (plainElem Try.prog 4) w.heap.size k D ∧ Below w.heap.size w wr) (fun i _ => n - (intOf i).toNat)
  case atStart => exact ⟨0, _, by omega, rfl, (fun i j _ h => by omega), SetIs.zero ss, World.ownsMap_made _ _ _ _, (Below.refl _ _).alloc (Nat.le_refl _) _⟩
  case round =>
    obtain ⟨k, D, hk, rfl, HN, HD, hown, hbl⟩ := hrel
    by_cases hlt : k < n
    · obtain ⟨c0, c1, c2⟩ := HM.out.2.2 k hlt
      rw [← hbl.cell (p := ⟨g, k * 3, none⟩) hg] at c0
      rw [← hbl.cell (p := ⟨g, k * 3 + 1, none⟩) hg] at c1
      rw [← hbl.cell (p := ⟨g, k * 3 + 2, none⟩) hg] at c2
      have i1 : (k : Int) < n := by omega
      have hs := HSZ.out k
      by_cases hex : ∃ i, i < k ∧ nm ss i = nm ss k
      · have hlook := HD.out.look hown (nm ss k) hs true ⟨fun _ => hex, fun _ => rfl⟩
        have HDu : Hid (Dup ss) := by obtain ⟨i, hi, e⟩ := hex; exact ⟨i, k, hi, by rw [HM.out.2.1]; exact hlt, e⟩
        clear hex hs
        obtain ⟨s1, h1⟩ : ∃ s, s = nm ss k := ⟨_, rfl⟩
        rw [← h1] at c0 hlook
        clear h1
        go_wp2
        go_ret
        exact ⟨true, rfl, ⟨fun _ => HDu.out, fun _ => rfl⟩, hbl.alloc hbl.size _⟩
      · have hlook := HD.out.look hown (nm ss k) hs false ⟨fun h => (by cases h), fun h => absurd h hex⟩
        have HN' : Hid (NoDup ss (k + 1)) := HN.out.succ (fun i hi e => hex ⟨i, hi, e⟩)
        have HD' := HD.out.succ
        have hkey := keyOf_string_mk Try.underlying9 hs
        clear hex
        obtain ⟨s1, h1⟩ : ∃ s, s = nm ss k := ⟨_, rfl⟩
        rw [← h1] at c0 hlook hs HD' hkey
        have HKEY : Hid (keyOf Try.prog 9 (.string s1) = some (.string s1.data.toList)) := hkey
        have HDD : Hid (SetIs (D.put (.string s1.data.toList) (.lit (.bool true))) ss (k + 1)) := HD'
        clear h1 HD' hkey
        go_wp2_with (at_mapUpdate; refine wpList_mapUpdate_own _ rfl _ _ _ 75 rfl 9 4 law9 Try.underlying75 _ w.heap.size k D rfl (hown.alloc _) (by unfold maxLen; omega) _ _ _ rfl rfl HKEY.out _ [] (plainElem_bool Try.underlying4 true) ?_; intro w2 hown2 hg2)
        have hb2 : Below w.heap.size w w2 := (hbl.alloc hbl.size _).grown hg2 (by have := hbl.size; simp; omega) (fun j hj => by cases hj; exact Nat.le_refl _)
        clear hown hg2 hlook
        go_wp2
        go_roundw
        case rel => exact ⟨k + 1, _, by omega, by go_num, HN', HDD, hown2, hb2⟩
        case measure => simp [intOf]; omega
    · obtain rfl : k = n := by omega
      go_wp2
      go_ret
      refine ⟨false, rfl, ⟨fun h => (by cases h), fun h => ?_⟩, hbl⟩
      have := HN.out
      rw [← HM.out.2.1] at this
      exact absurd h this.not_dup

/-- repeatsName, at every length. -/
theorem rep_any (g n cap : Nat) (ss : List ByteArray) (w : World) (hM : MRow w g n ss) (hcap : n ≤ cap) (hn2 : n ≤ 1048576) (hsz : ∀ i, (nm ss i).size ≤ maxLen) :
    Calls Try.prog 34 #[.slice (some ⟨g, 0, none⟩) n cap] w fun e w' => ∃ b : Bool, e = .returned (.bool b) ∧ (b = true ↔ Dup ss) ∧ Below w.heap.size w w' := by
  by_cases h : n ≤ 8
  · exact rep_small g n cap ss w hM h hcap
  · exact rep_big g n cap ss w hM (by omega) hn2 hsz
/-- ZZRepeatsName. -/
theorem zzrep_any (g n cap : Nat) (ss : List ByteArray) (w : World) (hM : MRow w g n ss) (hcap : n ≤ cap) (hn2 : n ≤ 1048576) (hsz : ∀ i, (nm ss i).size ≤ maxLen) :
    Calls Try.prog 10 #[.slice (some ⟨g, 0, none⟩) n cap] w fun e w' => ∃ b : Bool, e = .returned (.bool b) ∧ (b = true ↔ Dup ss) ∧ Below w.heap.size w w' := by
  have HM : Hid (MRow w g n ss) := hM
  have HSZ : Hid (∀ i, (nm ss i).size ≤ maxLen) := hsz
  clear hM hsz
  go_enter Try.func10, Try.ntmps10
  go_wp2_with fail
  refine (rep_any g n cap ss _ HM.out hcap hn2 HSZ.out).mono ?_
  rintro e w' ⟨b, rfl, hb, hbe⟩
  have HB : Hid (b = true ↔ Dup ss) := hb
  clear hb
  go_wp2
  go_ret
  exact ⟨b, rfl, HB.out, hbe⟩
end Go.Proofs.Qxb6600942a
