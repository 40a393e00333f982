/-
  THE WALK of (*builder).upTo (6).
-/
import Derived.Test.YbulkddgcRows
import Derived.ProofKit
import Derived.WalkKit
import Derived.WalkSpells
import Derived.StillTactics
import Derived.OwnWalk
import Derived.RegionTactic
import Derived.BigRegion
import Derived.Deep.RegionLaw
import Derived.Deep.AppendLies
import Derived.Laws.Pointers
import Derived.Lib.Builder
namespace Go.Proofs.Ybulkddgc
open Go.RowKit

theorem Yba.info40 : (Yba.prog.info? 40).map (fun i => (i.zero, i.size, i.bytes)) = some (some .nilIface, 1, 16) := by kernel_rfl

/-- The builder's cells. -/
def bcells (nb n : Nat) (pv : Value) (at' : Int) : Array Value := #[.slice (some ⟨nb, 0, none⟩) n n, pv, .int .i64 at', .int .i64 0]

/-- Only block bb and the row of pv may have turned. -/
structure Chg (bb : Nat) (pv : Value) (w w' : World) : Prop where
  os : w'.os = w.os
  tape : w'.tape = w.tape
  output : w'.output = w.output
  size : w.heap.size ≤ w'.heap.size
  block : ∀ k, k < w.heap.size → k ≠ bb → some k ≠ pv.ownBlock → w'.heap[k]? = w.heap[k]?

theorem own_ne {w : World} {base e size n k : Nat} {v : Value} {xs : List Value} (h : w.ownsRow base e size v n xs) (hk : k < base) : v.ownBlock ≠ some k := by
  intro hv
  have := (h.lt k hv).1
  omega

/-- ys laid behind xs, the place at at'. -/
def Laid (bb nb n m : Nat) (pv : Value) (xs ys : List Value) (at' : Int) (w : World) (pv' : Value) (w' : World) : Prop :=
  w'.heap[bb]? = some (.cells (bcells nb n pv' at') 27 (0, 0)) ∧ w'.ownsRow (bb + 1) 40 1 pv' (m + ys.length) (xs ++ ys) ∧ Chg bb pv w w' ∧ ∀ k, k < w.heap.size → some k = pv'.ownBlock → some k = pv.ownBlock

/-- A literal part. -/
def litV (nb n lo hi : Nat) : Value := .iface 37 (.slice (some ⟨nb, lo, none⟩) (hi - lo) (n - lo))

theorem grown_setCell (w : World) (bb j : Nat) (v : Value) : w.grownBy (w.setCell ⟨bb, j, none⟩ v) (some bb) :=
  ⟨rfl, rfl, rfl, by simp [World.setCell], fun k _ hne => heap_setCell_other w ⟨bb, j, none⟩ k v (fun e => hne (by rw [e]))⟩

theorem own_setCell {w : World} {bb e size n j : Nat} {v u : Value} {xs : List Value} (h : w.ownsRow (bb + 1) e size v n xs) : (w.setCell ⟨bb, j, none⟩ u).ownsRow (bb + 1) e size v n xs :=
  h.kept (grown_setCell w bb j u) (Or.inr (own_ne h (by omega)))

theorem lies_old {pv : Value} {gg H n m : Nat} (h : pv.ownBlock = some gg ∨ gg = H + 1) : ∀ k, k < H → some k = (Value.slice (some ⟨gg, 0, none⟩) n m).ownBlock → some k = pv.ownBlock := by
  intro k hk e
  simp [Value.ownBlock] at e
  subst e
  rcases h with h | h
  · exact h.symm
  · omega

/-- The builder's parts and its place turned, behind an append. -/
theorem upTo_fin {bb nb n m : Nat} {lo hi : Int} {pv v : Value} {ys : List Value} {w w1 : World} {o : Obj} (hw1 : w1.heap[bb]? = some (.cells (bcells nb n pv lo) 27 (0, 0)))
    (hown1 : w1.ownsRow (bb + 1) 40 1 v m ys) (hgrow : ((w.alloc o).drew).grownBy w1 pv.ownBlock) :
    ((w1.setCell ⟨bb, 1, none⟩ v).setCell ⟨bb, 2, none⟩ (.int .i64 hi)).heap[bb]? = some (.cells (bcells nb n v hi) 27 (0, 0)) ∧
    ((w1.setCell ⟨bb, 1, none⟩ v).setCell ⟨bb, 2, none⟩ (.int .i64 hi)).ownsRow (bb + 1) 40 1 v m ys ∧
    Chg bb pv w ((w1.setCell ⟨bb, 1, none⟩ v).setCell ⟨bb, 2, none⟩ (.int .i64 hi)) := by
  refine ⟨?_, own_setCell (own_setCell hown1), hgrow.os, hgrow.tape, hgrow.output, ?_, fun k hk hne hne2 => ?_⟩
  · have h1 := heap_setCell_same w1 bb 1 _ 27 v hw1
    rw [heap_setCell_same _ bb 2 _ 27 _ h1]
    rfl
  · have h := hgrow.size
    have h2 : w.heap.size ≤ (w.alloc o).heap.size := by simp
    have h3 : ((w.alloc o).drew).heap.size = (w.alloc o).heap.size := rfl
    simp only [World.setCell, Array.size_modify]
    omega
  · rw [heap_setCell_other _ _ _ _ hne, heap_setCell_other _ _ _ _ hne]
    have hk2 : k < ((w.alloc o).drew).heap.size := by
      have h3 : ((w.alloc o).drew).heap.size = w.heap.size + 1 := by show (w.alloc o).heap.size = _; simp
      omega
    exact (hgrow.block k hk2 hne2).trans (heap_alloc_old w o hk)

set_option maxRecDepth 100000 in
set_option maxHeartbeats 3200000 in
theorem upTo_lit (bb nb n lo hi m : Nat) (pv : Value) (xs : List Value) (w : World) (hb : w.heap[bb]? = some (.cells (bcells nb n pv lo) 27 (0, 0)))
    (hown : w.ownsRow (bb + 1) 40 1 pv m xs) (hlt : lo < hi) (hn : hi ≤ n) (hm : m ≤ 4096) :
    Calls Yba.prog 6 #[.pointer (some ⟨bb, 0, none⟩), .int .i64 hi] w fun e w' => ∃ pv', e = .returned (.tuple #[]) ∧ Laid bb nb n m pv xs [litV nb n lo hi] hi w pv' w' := by
  obtain ⟨i0, hi0, hz0, hz1, hz2⟩ := info_parts Yba.info40
  have c0 : w.cell? ⟨bb, 0, none⟩ = some (.slice (some ⟨nb, 0, none⟩) n n) := (Lib.cell_of_heap hb 0).trans rfl
  have c1 : w.cell? ⟨bb, 1, none⟩ = some pv := (Lib.cell_of_heap hb 1).trans rfl
  have c2 : w.cell? ⟨bb, 2, none⟩ = some (.int .i64 lo) := (Lib.cell_of_heap hb 2).trans rfl
  have fz : ∀ j, w.frozen? ⟨bb, j, none⟩ = false := Lib.frozen_of_heap hb
  have lb := World.block_lt_of_cell? w _ c0
  have hn' : m + 1 ≤ maxLen := by unfold maxLen; omega
  have hb' : (m + 1) * 16 ≤ 140737488355328 := by omega
  have ag : pv.ownBlock ≠ some bb := own_ne hown (by omega)
  have k1 : (lo : Int) < hi := by omega
  have k2 : (0 : Int) ≤ lo := by omega
  have k3 : (hi : Int) ≤ n := by omega
  have k4 : (lo : Int) ≤ hi := by omega
  have z5 := Yba.sizeOf5
  have k5 : ¬ n = lo := by omega
  have f1 := fz 1
  have f2 := fz 2
  have HOWN : Hid (w.ownsRow (bb + 1) 40 1 pv m xs) := hown
  have HBL : Hid (w.heap[bb]? = some (.cells (bcells nb n pv lo) 27 (0, 0))) := hb
  have HAG : Hid (pv.ownBlock ≠ some bb) := ag
  have HMX : Hid (m + 1 ≤ maxLen ∧ (m + 1) * 16 ≤ 140737488355328) := ⟨hn', hb'⟩
  clear hown hb ag fz hn' hb'
  go_enter Yba.func6, Yba.ntmps6
  go_wp2_with fail
  go_region_law ((refine step_append_lies _ (by rfl) _ _ _ (by rfl) (bb + 1) 40 i0 _ 1 16 Yba.underlying25 hi0 hz0 hz1 hz2 rfl (by omega) pv m xs (by rfl) ((HOWN.out.alloc _).drew) ⟨w.heap.size, 0, none⟩ 1 1 [litV nb n lo hi] (by rfl) (by rfl) (World.news_of_block (cs := #[litV nb n lo hi]) (t := 40) (fr := (0, 0)) (heap_alloc_new w _)) (by simp [Value.oneCell', litV]) (by omega) HMX.out.1 HMX.out.2 (by simp; omega) (w.heap.size + 1) (by simp) ?_; intro gg cap w1 hown1 hgrow hat hlt1; have HW1 : Hid (w1.heap[bb]? = some (.cells (bcells nb n pv lo) 27 (0, 0))) := (hgrow.block bb (by simp; omega) (Ne.symm HAG.out)).trans ((heap_alloc_old w _ lb).trans HBL.out); have d1 : w1.cell? ⟨bb, 1, none⟩ = some pv := (Lib.cell_of_heap HW1.out 1).trans rfl; have d2 : w1.cell? ⟨bb, 2, none⟩ = some (.int .i64 lo) := (Lib.cell_of_heap HW1.out 2).trans rfl; have d3 : w1.frozen? ⟨bb, 1, none⟩ = false := Lib.frozen_of_heap HW1.out 1; have d4 : w1.frozen? ⟨bb, 2, none⟩ = false := Lib.frozen_of_heap HW1.out 2))
  all_goals go_wp2_with fail
  all_goals exact ⟨rfl, .tuple #[], by simp [results, Yba.results6], _, rfl, (upTo_fin HW1.out hown1 hgrow).1, (upTo_fin HW1.out hown1 hgrow).2.1, (upTo_fin (hi := hi) HW1.out hown1 hgrow).2.2, lies_old hat⟩

set_option maxHeartbeats 1000000 in
theorem upTo_none (bb nb n m : Nat) (at' st : Int) (pv : Value) (xs : List Value) (w : World) (hb : w.heap[bb]? = some (.cells (bcells nb n pv at') 27 (0, 0)))
    (hown : w.ownsRow (bb + 1) 40 1 pv m xs) (hle : st ≤ at') :
    Calls Yba.prog 6 #[.pointer (some ⟨bb, 0, none⟩), .int .i64 st] w fun e w' => e = .returned (.tuple #[]) ∧ Laid bb nb n m pv xs [] st w pv w' := by
  have c2 : w.cell? ⟨bb, 2, none⟩ = some (.int .i64 at') := (Lib.cell_of_heap hb 2).trans rfl
  have f2 : w.frozen? ⟨bb, 2, none⟩ = false := Lib.frozen_of_heap hb 2
  have k1 : ¬ at' < st := by omega
  have HOWN : Hid (w.ownsRow (bb + 1) 40 1 pv m xs) := hown
  have HBL : Hid (w.heap[bb]? = some (.cells (bcells nb n pv at') 27 (0, 0))) := hb
  clear hown hb
  go_enter Yba.func6, Yba.ntmps6
  go_wp2_with fail
  refine ⟨rfl, .tuple #[], by simp [results, Yba.results6], rfl, ?_, by simpa using own_setCell HOWN.out, ⟨rfl, rfl, rfl, by simp [World.setCell], fun k hk hne _ => heap_setCell_other _ _ _ _ hne⟩, fun _ _ h => h⟩
  rw [heap_setCell_same _ bb 2 _ 27 _ HBL.out]
  rfl

/-- What upTo lays. -/
def lits (nb n lo st : Nat) : List Value := if lo < st then [litV nb n lo st] else []

theorem upTo_any (bb nb n lo st m : Nat) (pv : Value) (xs : List Value) (w : World) (hb : w.heap[bb]? = some (.cells (bcells nb n pv lo) 27 (0, 0)))
    (hown : w.ownsRow (bb + 1) 40 1 pv m xs) (hn : st ≤ n) (hm : m ≤ 4096) :
    Calls Yba.prog 6 #[.pointer (some ⟨bb, 0, none⟩), .int .i64 st] w fun e w' => ∃ pv', e = .returned (.tuple #[]) ∧ Laid bb nb n m pv xs (lits nb n lo st) st w pv' w' := by
  by_cases h : lo < st
  · have := upTo_lit bb nb n lo st m pv xs w hb hown h hn hm
    simpa [lits, h] using this
  · have := upTo_none bb nb n m lo st pv xs w hb hown (by omega)
    refine this.mono ?_
    rintro e w' ⟨rfl, hL⟩
    exact ⟨pv, rfl, by simpa [lits, h] using hL⟩
end Go.Proofs.Ybulkddgc
