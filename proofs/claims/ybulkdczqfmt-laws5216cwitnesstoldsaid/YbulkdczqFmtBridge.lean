/-
  A REGION THAT DRAWS ITS ORDER, IN A ROUND: a walk in a plain frame serves in a round's frame, where no operation is a defer statement. No program in sight.
-/
import Derived.Test.YbulkdczqFmtRange
import Derived.Deep.RegionHeld
namespace Go.Proofs.YbulkdczqFmt
open Go.RowKit Go.Shelf

/-- No operation of the region is a defer statement. -/
def noDefer (ops : Array Oper) : Bool := ops.toList.all fun o => match o.op with | .defer _ => false | _ => true
theorem noDefer_spec {ops : Array Oper} (h : noDefer ops = true) (i : Nat) (o : Oper) (hi : ops[i]? = some o) (c : Call) : o.op ≠ .defer c := by
  unfold noDefer at h
  rw [List.all_eq_true] at h
  have := h o (by
    obtain ⟨hl, rfl⟩ := Array.getElem?_eq_some_iff.1 hi
    simp)
  intro e
  rw [e] at this
  cases this

theorem opIn_of_op {l n : Nat} {P : Program} {o : Oper} {a : Act} {w : World} {K : Act → World → Prop} {Q : Exit → Act → World → Prop} (hd : ∀ c, o.op ≠ .defer c) (h : o.wp P a w K Q) : o.wpIn (Fence.wide.inRound l) n P a w K Q := by
  unfold Oper.wp at h
  unfold Oper.wpIn
  refine ⟨fun _ _ => trivial, ?_⟩
  rw [Fence.inRound_round, Oper.semAt_some l _ _ hd]
  generalize (execOp a.eval o).run P w = r at *
  cases r with
  | ok x w' =>
    cases x with
    | value v => exact h
    | skip => exact h
    | defer d => exact h
    | enter f args =>
      refine ⟨fun e => by simp [Fence.wide] at e, ?_⟩
      exact CallsIn.inRound l (callsIn_wide.2 h)
    | row row args =>
      refine ⟨fun e => by simp [Fence.wide] at e, ?_⟩
      exact fun c cs _ => let ⟨v, w', r, s⟩ := h c cs; ⟨v, w', r, stepsIn_wide.2 s⟩
    | round l f tmps assign body => exact h.elim
    | _ => exact h.elim
  | halt x w' => cases x <;> exact h

theorem anyIn_of_held {l n : Nat} {P : Program} {md : Region.Mode} {ops : Array Oper} {Q : Exit → Act → World → Prop} {S : World → Prop} (hd : noDefer ops = true) (hnl : ¬ LetsOut Q) :
    ∀ (fuel : Nat) (listed : Array Bool) (a : Act) (w : World), wpAnyH P md ops Q S fuel listed a w → wpAnyIn (Fence.wide.inRound l) n P md ops Q fuel listed a w := by
  intro fuel
  induction fuel with
  | zero => intro listed a w h; exact h
  | succ fuel ih =>
    intro listed a w h
    refine ⟨h.1, fun i hi => ?_⟩
    have h2 := h.2 i hi
    unfold wpOp at h2
    unfold wpOpIn
    cases ho : ops[i]? with
    | none => rw [ho] at h2; exact ih _ _ _ h2.2
    | some o =>
      rw [ho] at h2
      simp only at h2 ⊢
      by_cases hw : Region.wanted o (yielded ops a.tmps) = true
      · simp only [hw, if_true] at h2 ⊢
        rcases h2 with h2 | h2
        · exact Oper.wpIn_mono (fun a' w' hk => ih _ _ _ hk.2) (opIn_of_op (noDefer_spec hd i o ho) h2)
        · exact absurd h2.2 hnl
      · simp only [hw] at h2 ⊢
        exact ⟨fun _ _ => trivial, ih _ _ _ h2.2⟩

/-- The region, in a round. -/
theorem region_round {l n : Nat} {P : Program} {id : Nat} {ops : Array Oper} {Q : Exit → Act → World → Prop} {a : Act} {w : World} (S : World → Prop) (hm : P.follows .mixedOrders = true) (hd : noDefer ops = true) (hnl : ¬ LetsOut Q)
    (h : wpAnyH P .any ops Q S ops.size (Array.replicate ops.size false) a w.drew) : (Code.region id ops true).wpIn (Fence.wide.inRound l) n P Q a w :=
  wpIn_region_any hm (anyIn_of_held hd hnl _ _ _ _ h)
end Go.Proofs.YbulkdczqFmt
