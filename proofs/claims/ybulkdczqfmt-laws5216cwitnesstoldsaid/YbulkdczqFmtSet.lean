/-
  THE WALKS of Set.Has (15), Remove (16), Add (17), Clone (12).
-/
import Derived.Test.YbulkdczqFmtRead
import Derived.StillTactics
import Derived.OwnWalk
import Derived.RegionTactic
import Derived.BigRegion
import Derived.Deep.RegionLaw
import Derived.Deep.AppendLies
import Derived.Deep.QuietTactic
import Derived.BigQuiet
import Derived.Laws.Pointers
namespace Go.Proofs.YbulkdczqFmt
open Go.RowKit

theorem cast_pow (j : Nat) : (((2 ^ j : Nat)) : Int) = (2 : Int) ^ j := by simp
theorem pw (j : Nat) (hj : j < 64) : IntKind.u64.wrap ((2 : Int) ^ j) = (2 : Int) ^ j := by
  rw [← cast_pow, IntKind.wrap_u64]
  have h1 : 2 ^ j < 18446744073709551616 := pow_lt64 j hj
  generalize 2 ^ j = x at *
  omega
theorem b_and (q j : Nat) (hq64 : q < 2 ^ 64) (hj : j < 64) : bits .and .u64 (q : Int) ((2 : Int) ^ j) = ((q &&& 2 ^ j : Nat) : Int) := by
  rw [← cast_pow]; exact u64_and_nat _ _ hq64 (pow_lt64 j hj)
theorem b_not (q j : Nat) (hq64 : q < 2 ^ 64) (hj : j < 64) : bits .andNot .u64 (q : Int) ((2 : Int) ^ j) = ((sub q (2 ^ j) : Nat) : Int) := by
  rw [← cast_pow]; exact u64_andNot_nat _ _ hq64 (pow_lt64 j hj)
theorem b_or (q j : Nat) (hq64 : q < 2 ^ 64) (hj : j < 64) : bits .or .u64 (q : Int) ((2 : Int) ^ j) = ((q ||| 2 ^ j : Nat) : Int) := by
  rw [← cast_pow]; exact u64_or_nat _ _ hq64 (pow_lt64 j hj)
theorem ret_bool {a b : Bool} (h : a = b) : Ending.returned (.bool a) = .returned (.bool b) := by rw [h]
theorem ne_bit (q j : Nat) : (((q &&& 2 ^ j : Nat) : Int) != 0) = q.testBit j := by
  cases h : q.testBit j with
  | false => rw [(and_pow_zero q j).2 h]; rfl
  | true =>
    have : q &&& 2 ^ j ≠ 0 := fun e => by rw [(and_pow_zero q j).1 e] at h; cases h
    simp only [bne_iff_ne, ne_eq, Int.natCast_eq_zero]
    exact this

theorem below_drewN {B : Nat} {w w1 : World} (h : Below B w w1) (k : Nat) : Below B w (w1.drewN k) := ⟨h.os, h.tape, h.output, h.size, h.block⟩
theorem below_drew {B : Nat} {w w1 : World} (h : Below B w w1) : Below B w w1.drew := ⟨h.os, h.tape, h.output, h.size, h.block⟩

set_option maxHeartbeats 1000000 in
theorem has_any (n b c k q : Nat) (h1 : 1 ≤ k) (h2 : k ≤ n) (hn : n ≤ 8) (hq64 : q < 2 ^ 64) (w : World) (h : w.cell? ⟨b, 0, none⟩ = some (.int .u64 q)) :
    Calls Ybaf.prog 15 #[setV n b c, .int .i64 k] w fun e w' => e = .returned (.bool (q.testBit (k - 1))) ∧ Below w.heap.size w w' := by
  have lb := World.block_lt_of_cell? w _ h
  have HC : Hid (∀ w, Calls Ybaf.prog 19 #[setV n b c, .int .i64 k] w fun e w' => e = .returned (.tuple #[]) ∧ ∃ o, w' = w.alloc o) := fun w => check_any n b c k h1 h2 w
  obtain ⟨j, rfl⟩ : ∃ j, k = j + 1 := ⟨k - 1, by omega⟩
  unfold setV at *
  have m1 : IntKind.i64.wrap (j : Int) = j := by simp [IntKind.wrap, IntKind.bits, IntKind.signed]; omega
  have m2 : (j : Int).tdiv 64 = 0 := by rw [Int.tdiv_eq_ediv_of_nonneg (by omega)]; omega
  have m3 : (j : Int).tmod 64 = j := by rw [Int.tmod_eq_emod_of_nonneg (by omega)]; omega
  have m4 : (0 : Int) ≤ j := by omega
  have m7 : (j : Int) < 64 := by omega
  have m8 := pw j (by omega)
  have m9 := b_and q j hq64 (by omega)
  go_enter Ybaf.func15, Ybaf.ntmps15
  go_wp2_with fail
  refine (HC.out _).mono ?_
  rintro e w1 ⟨rfl, o, rfl⟩
  go_wp2_with fail
  go_quiet (fail)
  go_wp2_with fail
  go_ret
  exact ⟨ret_bool (ne_bit q j), below_drewN (((Below.refl _ w).alloc (Nat.le_refl _) _).alloc (by simp) _) _⟩

/-- Block b's first word is q. -/
def Word (w : World) (b q : Nat) : Prop := ∃ cs, w.heap[b]? = some (.cells cs 23 (0, 0)) ∧ cs[0]? = some (.int .u64 q)
theorem Word.cell {w : World} {b q : Nat} (h : Word w b q) : w.cell? ⟨b, 0, none⟩ = some (.int .u64 q) := by
  obtain ⟨cs, h1, h2⟩ := h
  rw [Lib.cell_of_heap h1]; exact h2
theorem Word.frozen {w : World} {b q : Nat} (h : Word w b q) : w.frozen? ⟨b, 0, none⟩ = false := by
  obtain ⟨cs, h1, h2⟩ := h
  exact Lib.frozen_of_heap h1 0
theorem Word.lt {w : World} {b q : Nat} (h : Word w b q) : b < w.heap.size := by
  obtain ⟨cs, h1, h2⟩ := h
  exact (Array.getElem?_eq_some_iff.1 h1).1
theorem Word.below {w w' : World} {b q B : Nat} (h : Word w b q) (hb : Below B w w') (hB : b < B) : Word w' b q := by
  obtain ⟨cs, h1, h2⟩ := h
  exact ⟨cs, (hb.block b hB).trans h1, h2⟩
theorem Word.set {w : World} {b q : Nat} (h : Word w b q) (q' : Nat) : Word (w.setCell ⟨b, 0, none⟩ (.int .u64 q')) b q' := by
  obtain ⟨cs, h1, h2⟩ := h
  have hl : 0 < cs.size := (Array.getElem?_eq_some_iff.1 h2).1
  refine ⟨cs.setIfInBounds 0 (.int .u64 q'), ?_, by simp [hl]⟩
  simp [World.setCell, Array.getElem?_modify, h1]
theorem size_setCell (w : World) (a : Addr) (v : Value) : (w.setCell a v).heap.size = w.heap.size := by simp [World.setCell]

set_option maxHeartbeats 1000000 in
theorem remove_any (n b c k q : Nat) (h1 : 1 ≤ k) (h2 : k ≤ n) (hn : n ≤ 8) (hq64 : q < 2 ^ 64) (w : World) (hW : Word w b q) :
    Calls Ybaf.prog 16 #[setV n b c, .int .i64 k] w fun e w' => e = .returned (.tuple #[]) ∧ Below w.heap.size (w.setCell ⟨b, 0, none⟩ (.int .u64 (sub q (2 ^ (k - 1)) : Nat))) w' := by
  have h := hW.cell
  have hf := hW.frozen
  clear hW
  have lb := World.block_lt_of_cell? w _ h
  have HC : Hid (∀ w, Calls Ybaf.prog 19 #[setV n b c, .int .i64 k] w fun e w' => e = .returned (.tuple #[]) ∧ ∃ o, w' = w.alloc o) := fun w => check_any n b c k h1 h2 w
  obtain ⟨j, rfl⟩ : ∃ j, k = j + 1 := ⟨k - 1, by omega⟩
  unfold setV at *
  have m1 : IntKind.i64.wrap (j : Int) = j := by simp [IntKind.wrap, IntKind.bits, IntKind.signed]; omega
  have m2 : (j : Int).tdiv 64 = 0 := by rw [Int.tdiv_eq_ediv_of_nonneg (by omega)]; omega
  have m3 : (j : Int).tmod 64 = j := by rw [Int.tmod_eq_emod_of_nonneg (by omega)]; omega
  have m4 : (0 : Int) ≤ j := by omega
  have m7 : (j : Int) < 64 := by omega
  have m8 := pw j (by omega)
  have m9 := b_not q j hq64 (by omega)
  go_enter Ybaf.func16, Ybaf.ntmps16
  go_wp2_with fail
  refine (HC.out _).mono ?_
  rintro e w1 ⟨rfl, o, rfl⟩
  go_wp2_with fail
  go_region
  all_goals go_wp2_with fail
  all_goals exact ⟨rfl, .tuple #[], by simp [results, Ybaf.results16], rfl, below_drew (((Below.refl _ _).alloc (Nat.le_of_eq (size_setCell _ _ _).symm) _).alloc (by rw [World.size_alloc, size_setCell]; omega) _)⟩

set_option maxHeartbeats 1000000 in
theorem add_any (n b c k q : Nat) (h1 : 1 ≤ k) (h2 : k ≤ n) (hn : n ≤ 8) (hq64 : q < 2 ^ 64) (w : World) (hW : Word w b q) :
    Calls Ybaf.prog 17 #[setV n b c, .int .i64 k] w fun e w' => e = .returned (.tuple #[]) ∧ Below w.heap.size (w.setCell ⟨b, 0, none⟩ (.int .u64 (q ||| 2 ^ (k - 1) : Nat))) w' := by
  have h := hW.cell
  have hf := hW.frozen
  clear hW
  have lb := World.block_lt_of_cell? w _ h
  have HC : Hid (∀ w, Calls Ybaf.prog 19 #[setV n b c, .int .i64 k] w fun e w' => e = .returned (.tuple #[]) ∧ ∃ o, w' = w.alloc o) := fun w => check_any n b c k h1 h2 w
  obtain ⟨j, rfl⟩ : ∃ j, k = j + 1 := ⟨k - 1, by omega⟩
  unfold setV at *
  have m1 : IntKind.i64.wrap (j : Int) = j := by simp [IntKind.wrap, IntKind.bits, IntKind.signed]; omega
  have m2 : (j : Int).tdiv 64 = 0 := by rw [Int.tdiv_eq_ediv_of_nonneg (by omega)]; omega
  have m3 : (j : Int).tmod 64 = j := by rw [Int.tmod_eq_emod_of_nonneg (by omega)]; omega
  have m4 : (0 : Int) ≤ j := by omega
  have m7 : (j : Int) < 64 := by omega
  have m8 := pw j (by omega)
  have m9 := b_or q j hq64 (by omega)
  go_enter Ybaf.func17, Ybaf.ntmps17
  go_wp2_with fail
  refine (HC.out _).mono ?_
  rintro e w1 ⟨rfl, o, rfl⟩
  go_wp2_with fail
  go_region
  all_goals go_wp2_with fail
  all_goals exact ⟨rfl, .tuple #[], by simp [results, Ybaf.results17], rfl, below_drew (((Below.refl _ _).alloc (Nat.le_of_eq (size_setCell _ _ _).symm) _).alloc (by rw [World.size_alloc, size_setCell]; omega) _)⟩

theorem info23 : (Ybaf.prog.info? 23).map (fun i => (i.zero, i.size, i.bytes)) = some (some (.int .u64 0), 1, 8) := by kernel_rfl

theorem heap_alloc_new (w : World) (o : Obj) : (w.alloc o).heap[w.heap.size]? = some o := by
  show (w.heap.push o)[w.heap.size]? = some o
  simp
theorem heap_alloc_old (w : World) (o : Obj) {k : Nat} (h : k < w.heap.size) : (w.alloc o).heap[k]? = w.heap[k]? := by
  show (w.heap.push o)[k]? = w.heap[k]?
  rw [Array.getElem?_push, if_neg (by omega)]
theorem heap_alloc2_new (w : World) (o1 o2 : Obj) : ((w.alloc o1).alloc o2).heap[w.heap.size + 1]? = some o2 := by
  have := heap_alloc_new (w.alloc o1) o2
  simpa using this
theorem heap_alloc2_fst (w : World) (o1 o2 : Obj) : ((w.alloc o1).alloc o2).heap[w.heap.size]? = some o1 :=
  (heap_alloc_old _ o2 (by simp)).trans (heap_alloc_new w o1)
theorem one_news {w : World} {b q : Nat} (h : w.cell? ⟨b, 0, none⟩ = some (.int .u64 q)) (j : Nat) (u : Value) (hj : [Value.int .u64 q][j]? = some u) : w.cell? ((⟨b, 0, none⟩ : Addr).add j) = some u := by
  cases j with
  | zero => simp at hj; subst hj; rw [Addr.add_lit]; exact h
  | succ j => simp at hj
theorem word_of_row {w : World} {base g cap q : Nat} (h : w.ownsRow base 23 1 (.slice (some ⟨g, 0, none⟩) 1 cap) 1 [.int .u64 q]) : Word w g q ∧ base ≤ g := by
  rcases h.2 with ⟨e, _⟩ | ⟨g', cap', cur, e, hb, hg, h5⟩
  · cases e
  · cases e
    have := h.cells (g := g) rfl 0 (.int .u64 q) rfl
    rw [Addr.add_lit, Lib.cell_of_heap hg] at this
    exact ⟨⟨cur, hg, this⟩, hb⟩

theorem two_cells {w : World} {g t : Nat} {v0 v1 x y : Value} (h : w.heap[g]? = some (.cells #[x, y] t (0, 0))) : ((w.setCell ⟨g, 0, none⟩ v0).setCell ⟨g, 1, none⟩ v1).heap[g]? = some (.cells #[v0, v1] t (0, 0)) := by
  simp [World.setCell, Array.getElem?_modify, h]
theorem heap_setCell_other (w : World) {b k : Nat} (o : Nat) (v : Value) (h : k ≠ b) : (w.setCell ⟨b, o, none⟩ v).heap[k]? = w.heap[k]? := Below.heap_setCell _ _ _ _ h
theorem Word.other {w : World} {b q : Nat} (h : Word w b q) {g o : Nat} {v : Value} (hne : b ≠ g) : Word (w.setCell ⟨g, o, none⟩ v) b q := by
  obtain ⟨cs, h1, h2⟩ := h
  exact ⟨cs, (heap_setCell_other w o v hne).trans h1, h2⟩
theorem Word.alloc {w : World} {b q : Nat} (h : Word w b q) (o : Obj) : Word (w.alloc o) b q := by
  obtain ⟨cs, h1, h2⟩ := h
  exact ⟨cs, (heap_alloc_old w o (Array.getElem?_eq_some_iff.1 h1).1).trans h1, h2⟩
theorem Word.drewN {w : World} {b q : Nat} (h : Word w b q) (k : Nat) : Word (w.drewN k) b q := h
theorem below_grown {B : Nat} {w w0 w1 : World} (h : Below B w w0) (hB : B ≤ w0.heap.size) (hg : w0.grownBy w1 none) : Below B w w1 := h.grown hg hB (fun k e => by cases e)

set_option maxHeartbeats 1000000 in
theorem clone_any (n b c q : Nat) (w : World) (hW : Word w b q) :
    Calls Ybaf.prog 12 #[setV n b c] w fun e w' => (∃ g c', e = .returned (setV n g c') ∧ w.heap.size ≤ g ∧ Word w' g q) ∧ Below w.heap.size w w' := by
  obtain ⟨i0, hi0, hz0, hz1, hz2⟩ := info_parts info23
  have h := hW.cell
  have lb := World.block_lt_of_cell? w _ h
  have HN : Hid (∀ o1 o2, ((w.alloc o1).alloc o2).cell? ⟨b, 0, none⟩ = some (.int .u64 q)) := fun o1 o2 => Lib.cell?_alloc_some _ (Lib.cell?_alloc_some _ h)
  clear hW
  unfold setV at *
  go_enter Ybaf.func12, Ybaf.ntmps12
  go_wp2_with fail
  go_region_law ((refine step_append_lies _ (by rfl) _ _ _ (by rfl) (w.heap.size + 2) 23 i0 _ 1 8 Ybaf.underlying25 hi0 hz0 hz1 hz2 rfl (by omega) (.slice none 0 0) 0 [] (by rfl) (World.ownsRow_nil _ _ _ _) ⟨b, 0, none⟩ 1 c [.int .u64 q] (by rfl) (by rfl) (one_news (HN.out _ _)) (by simp [Value.oneCell']) (by omega) (by unfold maxLen; omega) (by omega) (by simp) (w.heap.size + 2) (by simp) ?_; intro gg cap w1 hown1 hgrow hat hlt1; have HR : Hid (w1.heap[w.heap.size + 1]? = some (.cells #[.int .i64 0, .slice none 0 0] 36 (0, 0))) := (hgrow.block (w.heap.size + 1) (by simp) (by simp [Value.ownBlock])).trans (heap_alloc2_new w _ _); have d1 : w1.cell? ⟨w.heap.size + 1, 0, none⟩ = some (.int .i64 0) := (Lib.cell_of_heap HR.out 0).trans rfl; have d2 : w1.cell? ⟨w.heap.size + 1, 1, none⟩ = some (.slice none 0 0) := (Lib.cell_of_heap HR.out 1).trans rfl; have d3 : w1.frozen? ⟨w.heap.size + 1, 0, none⟩ = false := Lib.frozen_of_heap HR.out 0; have d4 : w1.frozen? ⟨w.heap.size + 1, 1, none⟩ = false := Lib.frozen_of_heap HR.out 1; have d5 : w1.cell? ⟨w.heap.size, 0, none⟩ = some (.int .i64 n) := (Lib.cell_of_heap ((hgrow.block w.heap.size (by simp; omega) (by simp [Value.ownBlock])).trans (heap_alloc2_fst w _ _)) 0).trans rfl))
  all_goals go_wp2_with fail
  all_goals (refine bodyPost_ret (results_cell_row (p := 2) (ty := 36) rfl _ _ (w.heap.size + 1) 36 _ (0, 0) _ rfl (two_cells HR.out) Ybaf.underlying36 rfl (by kernel_rfl)) rfl ?_)
  all_goals (refine ⟨⟨gg, cap, rfl, by have := (word_of_row hown1).2; omega, Word.other (Word.other (word_of_row hown1).1 (by have := (word_of_row hown1).2; omega)) (by have := (word_of_row hown1).2; omega)⟩, ?_⟩)
  all_goals exact ((below_grown (below_drew (((Below.refl _ w).alloc (Nat.le_refl _) _).alloc (by simp) _)) (by simp; omega) hgrow).setCell (p := ⟨w.heap.size + 1, 0, none⟩) (by simp) _).setCell (p := ⟨w.heap.size + 1, 1, none⟩) (by simp) _
end Go.Proofs.YbulkdczqFmt
