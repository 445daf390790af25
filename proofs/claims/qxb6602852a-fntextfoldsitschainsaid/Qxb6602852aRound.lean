/-
  A REGION OF PLAIN OPERATIONS THAT DRAWS ITS ORDER, IN A ROUND OF A RANGE OVER A FUNCTION: walked as anywhere.
-/
import Derived.Test.Qxb6602852aText1
namespace Go.Proofs.Qxb6602852a
open Go.RowKit
set_option linter.unusedVariables false

section
variable {l n : Nat} {P : Program} {ops : Array Oper} {o : Oper} {a : Act} {w : World} {K K' : Act → World → Prop} {Q : Exit → Act → World → Prop}
theorem uponIn_of (hK : ∀ a w, K a w → K' a w) {r : Result Next} (h : o.upon P a K Q r) : o.uponIn (Fence.wide.inRound l) n P a K' Q r := by
  unfold Oper.upon at h
  split at h
  · exact hK _ _ h
  · exact hK _ _ h
  · exact hK _ _ h
  · refine ⟨(fun hd => by cases hd), CallsIn.inRound l (callsIn_wide.2 (Calls.mono h ?_))⟩
    intro e w'' he
    cases e
    · exact hK _ _ he
    · exact he
    · exact he
  · refine ⟨(fun hd => by cases hd), fun c cs _ => ?_⟩
    obtain ⟨v, w', r, s⟩ := h c cs
    exact ⟨v, w', hK _ _ r, stepsIn_wide.2 s⟩
  · exact h
  · exact h.elim
theorem opIn_of {i : Nat} (hd : ∀ o, ops[i]? = some o → ∀ c, o.op ≠ .defer c) (hLO : ¬ LetsOut Q) (h : wpOp P ops Q i K a w) (hK : ∀ a w, K a w → K' a w) : wpOpIn (Fence.wide.inRound l) n P ops Q i K' a w := by
  unfold wpOp at h
  unfold wpOpIn
  cases ho : ops[i]? with
  | none => rw [ho] at h; exact hK _ _ h
  | some o =>
    rw [ho] at h
    dsimp only at h ⊢
    by_cases hw : Region.wanted o (yielded ops a.tmps) = true
    · rw [if_pos hw] at h ⊢
      rcases h with h | ⟨_, h⟩
      · refine ⟨fun f _ => trivial, ?_⟩
        rw [Oper.semAt_plain (Fence.wide.inRound l) _ _ (hd o ho)]
        exact uponIn_of hK h
      · exact absurd h hLO
    · rw [if_neg hw] at h ⊢
      exact ⟨fun f _ => trivial, hK _ _ h⟩
theorem anyIn_of {md : Region.Mode} (hd : ∀ (i : Nat) (o : Oper), ops[i]? = some o → ∀ c, o.op ≠ .defer c) (hLO : ¬ LetsOut Q) : ∀ (fuel : Nat) (listed : Array Bool) (a : Act) (w : World), wpAny P md ops Q fuel listed a w → wpAnyIn (Fence.wide.inRound l) n P md ops Q fuel listed a w
  | 0, _, _, _, h => h
  | fuel + 1, _, _, _, h => ⟨h.1, fun i hi => opIn_of (hd i) hLO (h.2 i hi) (fun a w => anyIn_of hd hLO fuel _ a w)⟩
/-- No operation is a defer. -/
def noDefer (ops : Array Oper) : Bool := ops.all fun o => match o.op with | .defer _ => false | _ => true
theorem noDefer_spec (h : noDefer ops = true) (i : Nat) (o : Oper) (ho : ops[i]? = some o) : ∀ c, o.op ≠ .defer c := by
  intro c heq
  have := Array.all_eq_true_iff_forall_mem.1 h o (Array.mem_of_getElem? ho)
  simp [heq] at this
theorem round_region {id : Nat} (hm : P.follows .mixedOrders = true) (hd : noDefer ops = true) (hLO : ¬ LetsOut Q) (h : wpAny P .any ops Q ops.size (Array.replicate ops.size false) a w.drew) : (Code.region id ops true).wpIn (Fence.wide.inRound l) n P Q a w :=
  wpIn_region_any hm (anyIn_of (noDefer_spec hd) hLO _ _ _ _ h)
end
end Go.Proofs.Qxb6602852a
