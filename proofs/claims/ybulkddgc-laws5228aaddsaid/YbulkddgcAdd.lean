/-
  THE WALK of (*builder).add (4).
-/
import Derived.Test.YbulkddgcUpTo
namespace Go.Proofs.Ybulkddgc
open Go.RowKit

theorem Laid.trans {bb nb n m : Nat} {pv pv1 pv2 : Value} {xs ys zs : List Value} {a1 a2 : Int} {w w1 w2 : World} (h : Laid bb nb n m pv xs ys a1 w pv1 w1) (h2 : Laid bb nb n (m + ys.length) pv1 (xs ++ ys) zs a2 w1 pv2 w2) :
    Laid bb nb n m pv xs (ys ++ zs) a2 w pv2 w2 := by
  obtain ⟨_, _, c, d⟩ := h
  obtain ⟨a', b', c', d'⟩ := h2
  refine ⟨a', by simpa [Nat.add_assoc] using b', ⟨c'.os.trans c.os, c'.tape.trans c.tape, c'.output.trans c.output, Nat.le_trans c.size c'.size, fun k hk hne hn => ?_⟩, fun k hk e => d k hk (d' k (Nat.lt_of_lt_of_le hk c.size) e)⟩
  exact (c'.block k (Nat.lt_of_lt_of_le hk c.size) hne (fun e => hn (d k hk e))).trans (c.block k hk hne hn)

/-- A mark. -/
def markV (mk : Nat) : Value := .iface 34 (.pointer (some ⟨mk, 0, none⟩))

set_option maxRecDepth 100000 in
set_option maxHeartbeats 3200000 in
theorem add_any (bb nb n lo st m mk : Nat) (en : Int) (pv : Value) (xs : List Value) (w : World) (hb : w.heap[bb]? = some (.cells (bcells nb n pv lo) 27 (0, 0)))
    (hown : w.ownsRow (bb + 1) 40 1 pv m xs) (hn : st ≤ n) (hm : m ≤ 4000) :
    Calls Yba.prog 4 #[.pointer (some ⟨bb, 0, none⟩), markV mk, .int .i64 st, .int .i64 en] w fun e w' => ∃ pv', e = .returned (.tuple #[]) ∧ Laid bb nb n m pv xs (lits nb n lo st ++ [markV mk]) en w pv' w' := by
  obtain ⟨i0, hi0, hz0, hz1, hz2⟩ := info_parts Yba.info40
  have HUP : Hid (Calls Yba.prog 6 #[.pointer (some ⟨bb, 0, none⟩), .int .i64 st] w fun e w' => ∃ pv', e = .returned (.tuple #[]) ∧ Laid bb nb n m pv xs (lits nb n lo st) st w pv' w') := upTo_any bb nb n lo st m pv xs w hb hown hn (by omega)
  have hl : (lits nb n lo st).length ≤ 1 := by unfold lits; split <;> simp
  clear hb hown
  unfold markV
  go_enter Yba.func4, Yba.ntmps4
  go_wp2_with fail
  refine HUP.out.mono ?_
  rintro e w1 ⟨pv1, rfl, hL⟩
  have HL : Hid (Laid bb nb n m pv xs (lits nb n lo st) st w pv1 w1) := hL
  have ag : pv1.ownBlock ≠ some bb := own_ne hL.2.1 (by omega)
  have c1 : w1.cell? ⟨bb, 1, none⟩ = some pv1 := (Lib.cell_of_heap hL.1 1).trans rfl
  have lb := World.block_lt_of_cell? w1 _ c1
  have HAG : Hid (pv1.ownBlock ≠ some bb) := ag
  clear hL ag HUP
  go_wp2_with (at_builtin; refine wpList_append_lies _ rfl _ _ 25 rfl (bb + 1) 40 i0 .nilIface 1 16 Yba.underlying25 hi0 hz0 hz1 hz2 rfl ?q1 pv1 (m + (lits nb n lo st).length) (xs ++ lits nb n lo st) rfl ?q2 ⟨w1.heap.size, 0, none⟩ 1 1 [.iface 34 (.pointer (some ⟨mk, 0, none⟩))] rfl rfl ?q3 ?q4 ?q5 ?q6 ?q7 ?q8 (w1.heap.size + 1) ?q9 ?_)
  case q1 => omega
  case q2 => exact HL.out.2.1.alloc _
  case q3 => exact World.news_of_block (cs := #[.iface 34 (.pointer (some ⟨mk, 0, none⟩))]) (t := 40) (fr := (0, 0)) (heap_alloc_new w1 _)
  case q4 => simp [Value.oneCell']
  case q5 => omega
  case q6 => unfold maxLen; omega
  case q7 => omega
  case q8 => simp; omega
  case q9 => simp
  intro gg cap w2 hown2 hgrow hat hlt2
  have HW2 : Hid (w2.heap[bb]? = some (.cells (bcells nb n pv1 st) 27 (0, 0))) := (hgrow.block bb (by simp; omega) (Ne.symm HAG.out)).trans ((heap_alloc_old w1 _ lb).trans HL.out.1)
  have d1 : w2.cell? ⟨bb, 1, none⟩ = some pv1 := (Lib.cell_of_heap HW2.out 1).trans rfl
  have d2 : w2.cell? ⟨bb, 2, none⟩ = some (.int .i64 st) := (Lib.cell_of_heap HW2.out 2).trans rfl
  have d3 : w2.frozen? ⟨bb, 1, none⟩ = false := Lib.frozen_of_heap HW2.out 1
  have d4 : w2.frozen? ⟨bb, 2, none⟩ = false := Lib.frozen_of_heap HW2.out 2
  have HG2 : Hid (((w1.alloc (.cells #[.iface 34 (.pointer (some ⟨mk, 0, none⟩))] 40)).drew).grownBy w2 pv1.ownBlock) := ⟨hgrow.os, hgrow.tape, hgrow.output, hgrow.size, hgrow.block⟩
  have HO2 : Hid (w2.ownsRow (bb + 1) 40 1 (.slice (some ⟨gg, 0, none⟩) (m + (lits nb n lo st).length + 1) cap) (m + (lits nb n lo st).length + 1) (xs ++ lits nb n lo st ++ [.iface 34 (.pointer (some ⟨mk, 0, none⟩))])) := (by rw [List.append_assoc]; exact hown2 : w2.ownsRow _ _ _ _ _ _)
  have HAT : Hid (pv1.ownBlock = some gg ∨ gg = w1.heap.size + 1) := hat
  clear hgrow hown2 hat
  go_wp2_with fail
  refine ⟨rfl, .tuple #[], by simp [results, Yba.results4], .slice (some ⟨gg, 0, none⟩) (m + (lits nb n lo st).length + 1) cap, rfl, HL.out.trans ⟨?_, ?_, ?_, lies_old HAT.out⟩⟩
  · exact (upTo_fin HW2.out HO2.out HG2.out).1
  · exact (upTo_fin HW2.out HO2.out HG2.out).2.1
  · exact (upTo_fin (hi := en) HW2.out HO2.out HG2.out).2.2
end Go.Proofs.Ybulkddgc
