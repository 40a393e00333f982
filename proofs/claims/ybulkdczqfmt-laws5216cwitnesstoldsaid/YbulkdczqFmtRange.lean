/-
  A RANGE OVER A FUNCTION whose iterator hands over a block that it has just laid: what the body is handed is known IN THE WORLD IT IS HANDED IN. No program in sight.
-/
import Derived.Test.YbulkdczqFmtIter
namespace Go.Proofs.YbulkdczqFmt
open Go.RowKit Go.Shelf

/-- The loop's record, by its state and its pending jump. -/
def rcd (fn : FuncId) (tmps : Array Value) (ps : Array Tmp) (assign body : Code) (D : Nat) (st : LoopState) (pe : Option Code) : Loop := { state := st, pending := pe, fn, tmps, params := ps, assign, body, defers := D }

/-- How a round of ours may end: off its end, or by a return. -/
def endsRound (l : Nat) (r : LoopState → Option Code → Loop) (R : Ending → World → Prop) : Exit → Act → World → Prop
  | .normal, _, W => W.heap[l]? = some (.loop (r .busy none)) ∧ R (.returned (.bool true)) (W.putObj l (.loop (r .ready none)))
  | .ret, _, W => W.heap[l]? = some (.loop (r .busy none)) ∧ R (.returned (.bool false)) (W.putObj l (.loop (r .done (some .ret))))
  | _, _, _ => False

theorem round_own {m : Nat} {P : Program} {l : Nat} {fn : FuncId} {tmps : Array Value} {ps : Array Tmp} {assign body : Code} {D : Nat} {args : Array Value} {W : World} {R : Ending → World → Prop} {r : LoopState → Option Code → Loop}
    (hr : r = rcd fn tmps ps assign body D) (hl : W.heap[l]? = some (.loop (r .ready none))) (hs : args.size = ps.size)
    (h : assign.wpIn (Fence.wide.inRound l) m P (Exit.then (fun a₁ w₁ => w₁.heap[l]? = some (.loop (r .ready none)) ∧ body.wpIn (Fence.wide.inRound l) m P (endsRound l r R) a₁ (w₁.putObj l (.loop (r .busy none)))) (fun _ _ _ => False))
      { tmps := (ps.zip args).foldl (fun t (p, v) => t.setIfInBounds p v) tmps, defers := [] } W) : YieldAt Fence.wide m P l args W R := by
  subst hr
  refine ⟨fn, _, assign, body, run_yield hl hs, roundIn_of_wpIn trivial (wpIn_mono h ?_)⟩
  intro e a₁ w₁ he
  cases e with
  | normal =>
    obtain ⟨hl1, hb⟩ := he
    refine ⟨_, run_beginRound hl1 rfl, wpIn_mono hb ?_⟩
    intro e3 a3 W3 h3
    cases e3 with
    | normal => exact ⟨_, _, run_endRound none h3.1, h3.2⟩
    | ret => exact ⟨_, _, run_endRound (some .ret) h3.1, h3.2⟩
    | exit id => exact h3.elim
    | goto t => exact h3.elim
    | panic ch => exact h3.elim
    | outgrown => exact h3.elim
  | ret => exact he.elim
  | exit id => exact he.elim
  | goto t => exact he.elim
  | panic ch => exact he.elim
  | outgrown => exact he.elim

/-- The statement: the iterator's call, and what it must leave behind: the record ready (it has run out), or done with a return pending. -/
theorem range_own {n : Nat} {P : Program} {g : Operand} {ps : Array Tmp} {assign body : Code} {Q : Exit → Act → World → Prop} {a : Act} {w : World} {gf : Nat} {lb : Array Value}
    (hg : a.eval g = .func (.func gf) #[] lb) (eg : ∀ args w, (callFunc gf args).run P w = .ok (.enter gf args) w)
    (h : ∀ fn r, r = rcd fn a.tmps ps assign body w.heap.size →
      CallsIn Fence.wide (n - 1) P gf (#[.func (.yield (w.heap.size + 1)) #[] #[]] ++ lb) ((w.alloc (.deferred (some []))).alloc (.loop (r .ready none))) fun e W => (∃ v, e = .returned v) ∧
        ((W.heap[w.heap.size + 1]? = some (.loop (r .ready none)) ∧ ∀ o, Q .normal { a with defers := { target := .collected w.heap.size, args := #[] } :: a.defers } (W.putObj (w.heap.size + 1) o)) ∨
         (W.heap[w.heap.size + 1]? = some (.loop (r .done (some .ret))) ∧ ∀ o, Code.wpIn Fence.wide n P .ret Q { a with defers := { target := .collected w.heap.size, args := #[] } :: a.defers } (W.putObj (w.heap.size + 1) o)))) :
    (Code.rangeFunc g ps assign body).wpIn Fence.wide n P Q a w := by
  refine wpIn_rangeFunc ?_
  intro fn _
  have hc := h fn (rcd fn a.tmps ps assign body w.heap.size) rfl
  generalize hW1 : (w.alloc (.deferred (some []))).alloc (.loop (rcd fn a.tmps ps assign body w.heap.size .ready none)) = W1 at hc
  refine ⟨w.heap.size + 1, [{ target := .collected w.heap.size, args := #[] }], W1, { target := .fn (.func gf) lb, args := #[.func (.yield (w.heap.size + 1)) #[] #[]] }, W1, gf,
    #[.func (.yield (w.heap.size + 1)) #[] #[]] ++ lb, W1, ?_, ?_, ?_, ?_, ?_, ?_⟩
  · have hro : Fence.wide.round = none := rfl
    rw [hro, ← hW1]
    exact run_enterLoop_outer _ _ _ _ _
  · simp only [resolve, hg]
    simp [go_sem]
  · intro f' _
    show True
    trivial
  · simp [invoke, go_sem, eg]
  · intro h
    simp [Fence.wide] at h
  · refine hc.mono ?_
    rintro e W ⟨⟨v, rfl⟩, (⟨hl, hq⟩ | ⟨hl, hq⟩)⟩
    · exact ⟨none, _, run_endLoop hl (by simp [rcd]), hq _⟩
    · exact ⟨some .ret, _, run_endLoop hl (by simp [rcd]), hq _⟩
end Go.Proofs.YbulkdczqFmt
