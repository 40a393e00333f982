/-
  WHAT THE LAW's LOOPS CARRY: the events, the parts, the wanted ones. No walk here.
-/
import Derived.Test.YbulkddgcAdd
namespace Go.Proofs.Ybulkddgc
open Go.RowKit

/-- A part: a literal body[lo:hi], or the mark with id, in block blk. -/
structure Ev where
  lit : Bool
  lo : Nat
  hi : Nat
  id : Nat
  blk : Nat
def encP (nb n : Nat) (e : Ev) : Value := if e.lit = true then litV nb n e.lo e.hi else markV e.blk
def encW (e : Ev) : List Value := [.bool e.lit, .int .i64 e.lo, .int .i64 e.hi, .int .i64 e.id]
/-- What one add lays. -/
def news (cur st i mk : Nat) : List Ev := (if cur < st then [⟨true, cur, st, 0, 0⟩] else []) ++ [⟨false, 0, 0, i, mk⟩]
theorem news_P (nb n cur st i mk : Nat) : (news cur st i mk).map (encP nb n) = lits nb n cur st ++ [markV mk] := by
  unfold news lits
  split <;> rfl

structure S2 (nb bb n : Nat) (xs : List Int) (w : World) (P W : List Ev) (cur : Nat) (pv wv : Value) (wr : World) : Prop where
  hnb : nb < bb
  hcur : cur ≤ n
  body : wr.heap[nb]? = some (.cells (xs.map (Value.int .u8)).toArray 5 (0, 0))
  bld : wr.heap[bb]? = some (.cells (bcells nb n pv cur) 27 (0, 0))
  rowP : wr.ownsRow (bb + 1) 40 1 pv P.length (P.map (encP nb n))
  rowW : wr.ownsRow (bb + 1) 32 4 wv W.length (W.flatMap encW)
  inside : ∀ e ∈ P, e.lit = true → e.lo < e.hi ∧ e.hi ≤ n
  marks : ∀ e ∈ P, e.lit = false → wr.heap[e.blk]? = some (.cells #[.int .i64 e.id] 36 (0, 0))
  old : Below nb w wr

/-- Blocks of other tags are no row's block. -/
theorem tag_ne {w : World} {base e size n k T : Nat} {v : Value} {xs : List Value} {cs : Array Value} {fr : Nat × Nat} (h : w.ownsRow base e size v n xs) (hk : w.heap[k]? = some (.cells cs T fr)) (hT : T ≠ e) : some k ≠ v.ownBlock := by
  rcases h.2 with ⟨rfl, _⟩ | ⟨g, cap, cur, rfl, _, hg, _⟩
  · simp [Value.ownBlock]
  · intro e1
    simp [Value.ownBlock] at e1
    subst e1
    rw [hk] at hg
    simp at hg
    exact hT hg.2.1
theorem row_ne {w : World} {base base' e e' size size' n n' : Nat} {v v' : Value} {xs xs' : List Value} (h : w.ownsRow base e size v n xs) (h' : w.ownsRow base' e' size' v' n' xs') (hT : e' ≠ e) : v'.ownBlock = none ∨ v'.ownBlock ≠ v.ownBlock := by
  rcases h'.2 with ⟨rfl, _⟩ | ⟨g, cap, cur, rfl, _, hg, _⟩
  · exact Or.inl rfl
  · exact Or.inr (tag_ne h hg hT)
theorem lt_of_heap {w : World} {k : Nat} {o : Obj} (h : w.heap[k]? = some o) : k < w.heap.size := (Array.getElem?_eq_some_iff.1 h).1

theorem S2.alloc {nb bb n : Nat} {xs : List Int} {w wr : World} {P W : List Ev} {cur : Nat} {pv wv : Value} (h : S2 nb bb n xs w P W cur pv wv wr) (o : Obj) : S2 nb bb n xs w P W cur pv wv (wr.alloc o) :=
  ⟨h.hnb, h.hcur, (heap_alloc_old wr o (lt_of_heap h.body)).trans h.body, (heap_alloc_old wr o (lt_of_heap h.bld)).trans h.bld, h.rowP.alloc o, h.rowW.alloc o, h.inside,
   fun e he hl => (heap_alloc_old wr o (lt_of_heap (h.marks e he hl))).trans (h.marks e he hl), h.old.alloc (by have := lt_of_heap h.body; omega) o⟩

/-- The wanted ones grow. -/
theorem S2.want {nb bb n : Nat} {xs : List Int} {w wr w' : World} {P W : List Ev} {cur : Nat} {pv wv wv' : Value} (h : S2 nb bb n xs w P W cur pv wv wr) (e : Ev)
    (hown : w'.ownsRow (bb + 1) 32 4 wv' (W.length + 1) (W.flatMap encW ++ encW e)) (hg : wr.grownBy w' wv.ownBlock) : S2 nb bb n xs w P (W ++ [e]) cur pv wv' w' where
  hnb := h.hnb
  hcur := h.hcur
  body := (hg.block nb (lt_of_heap h.body) (tag_ne h.rowW h.body (by decide))).trans h.body
  bld := (hg.block bb (lt_of_heap h.bld) (tag_ne h.rowW h.bld (by decide))).trans h.bld
  rowP := h.rowP.kept hg (row_ne h.rowW h.rowP (by decide))
  rowW := by simpa using hown
  inside := h.inside
  marks := fun e he hl => (hg.block _ (lt_of_heap (h.marks e he hl)) (tag_ne h.rowW (h.marks e he hl) (by decide))).trans (h.marks e he hl)
  old := h.old.grown hg (by have := lt_of_heap h.body; omega) (fun k hk => by have := (h.rowW.lt k hk).1; have := h.hnb; omega)

/-- The builder's parts grow. -/
theorem S2.add {nb bb n : Nat} {xs : List Int} {w wr w' : World} {P W : List Ev} {cur : Nat} {pv wv pv' : Value} (h : S2 nb bb n xs w P W cur pv wv wr) (st en i mk : Nat) (hst : st ≤ n) (hen : en ≤ n)
    (hm : wr.heap[mk]? = some (.cells #[.int .i64 i] 36 (0, 0)))
    (hL : Laid bb nb n P.length pv (P.map (encP nb n)) (lits nb n cur st ++ [markV mk]) en wr pv' w') : S2 nb bb n xs w (P ++ news cur st i mk) W en pv' wv w' where
  hnb := h.hnb
  hcur := hen
  body := (hL.2.2.1.block nb (lt_of_heap h.body) (by have := h.hnb; omega) (tag_ne h.rowP h.body (by decide))).trans h.body
  bld := hL.1
  rowP := by
    have := hL.2.1
    rw [← news_P nb n cur st i mk] at this
    simpa using this
  rowW := by
    refine ⟨h.rowW.1, ?_⟩
    rcases h.rowW.2 with hn | ⟨g, cap, cu, rfl, hb, hgg, rest⟩
    · exact .inl hn
    · refine .inr ⟨g, cap, cu, rfl, hb, ?_, rest⟩
      rw [hL.2.2.1.block g (lt_of_heap hgg) (by omega) (tag_ne h.rowP hgg (by decide))]
      exact hgg
  inside := by
    intro e he hl
    rcases List.mem_append.1 he with he | he
    · exact h.inside e he hl
    · unfold news at he
      rcases List.mem_append.1 he with he | he
      · split at he
        · simp at he; subst he; simp only; omega
        · simp at he
      · simp at he; subst he; cases hl
  marks := by
    intro e he hl
    have key : ∀ (b : Nat) (x : Array Value), wr.heap[b]? = some (.cells x 36 (0, 0)) → w'.heap[b]? = some (.cells x 36 (0, 0)) := fun b x hx =>
      (hL.2.2.1.block b (lt_of_heap hx) (fun e => by subst e; rw [h.bld] at hx; simp at hx) (tag_ne h.rowP hx (by decide))).trans hx
    rcases List.mem_append.1 he with he | he
    · exact key _ _ (h.marks e he hl)
    · unfold news at he
      rcases List.mem_append.1 he with he | he
      · split at he
        · simp at he; subst he; cases hl
        · simp at he
      · simp at he; subst he; exact key _ _ hm
  old := h.old.trans ⟨hL.2.2.1.os, hL.2.2.1.tape, hL.2.2.1.output, hL.2.2.1.size, fun k hk => hL.2.2.1.block k (by have := lt_of_heap h.body; omega) (by have := h.hnb; omega) (fun e => by have := (h.rowP.lt k e.symm).1; have := h.hnb; omega)⟩

theorem row_form {w : World} {base e size n : Nat} {v : Value} {xs : List Value} (h : w.ownsRow base e size v n xs) : ∃ a cap, v = .slice a n cap ∧ (0 < n → ∃ g, a = some ⟨g, 0, none⟩) := by
  rcases h.2 with ⟨rfl, rfl⟩ | ⟨g, cap, cur, rfl, _⟩
  · exact ⟨none, 0, rfl, fun h => by omega⟩
  · exact ⟨_, cap, rfl, fun _ => ⟨g, rfl⟩⟩
theorem cells_P {w : World} {base g cap nb n : Nat} {P : List Ev} (h : w.ownsRow base 40 1 (.slice (some ⟨g, 0, none⟩) P.length cap) P.length (P.map (encP nb n))) (k : Nat) (hk : k < P.length) : w.cell? ⟨g, k, none⟩ = some (encP nb n P[k]) := by
  have := h.cells (g := g) rfl k (encP nb n P[k]) (by rw [List.getElem?_map, List.getElem?_eq_getElem hk]; rfl)
  simpa [Addr.add_lit] using this
theorem flat_at (W : List Ev) (k j : Nat) (hk : k < W.length) (hj : j < 4) : (W.flatMap encW)[k * 4 + j]? = (encW W[k])[j]? := by
  induction W generalizing k with
  | nil => simp at hk
  | cons e r ih =>
    have hl : (encW e).length = 4 := rfl
    rw [List.flatMap_cons]
    cases k with
    | zero => rw [List.getElem?_append_left (by rw [hl]; omega)]; simp
    | succ k =>
      rw [List.getElem?_append_right (by rw [hl]; omega), hl, show (k + 1) * 4 + j - 4 = k * 4 + j by omega]
      simpa using ih k (by simpa using hk)
theorem cells_W {w : World} {base g cap : Nat} {W : List Ev} (h : w.ownsRow base 32 4 (.slice (some ⟨g, 0, none⟩) W.length cap) W.length (W.flatMap encW)) (k : Nat) (hk : k < W.length) :
    w.cell? ⟨g, k * 4, none⟩ = some (.bool W[k].lit) ∧ w.cell? ⟨g, k * 4 + 1, none⟩ = some (.int .i64 W[k].lo) ∧ w.cell? ⟨g, k * 4 + 2, none⟩ = some (.int .i64 W[k].hi) ∧ w.cell? ⟨g, k * 4 + 3, none⟩ = some (.int .i64 W[k].id) := by
  have c := fun j v hv => h.cells (g := g) rfl (k * 4 + j) v hv
  have f := fun j hj => flat_at W k j hk hj
  refine ⟨?_, ?_, ?_, ?_⟩
  · have := c 0 (.bool W[k].lit) ((f 0 (by omega)).trans rfl); simpa [Addr.add_lit] using this
  · have := c 1 (.int .i64 W[k].lo) ((f 1 (by omega)).trans rfl); simpa [Addr.add_lit] using this
  · have := c 2 (.int .i64 W[k].hi) ((f 2 (by omega)).trans rfl); simpa [Addr.add_lit] using this
  · have := c 3 (.int .i64 W[k].id) ((f 3 (by omega)).trans rfl); simpa [Addr.add_lit] using this
end Go.Proofs.Ybulkddgc
