/-
  == ON THE ARRAYS OF THE ROAD.
-/
import Derived.Test.YbulkdczqBuild
import Derived.Laws.StructEq
import Derived.ChangeKeysEq
namespace Go.Proofs.Ybulkdczq
open Go.RowKit

theorem struct31 (d : Nat) (p l o r : Int) (b : Bool) (w : World) : (Op.equalIn (d + 2) 31 (.agg #[.int .i64 p, .int .i64 l, .int .i64 o, .int .i64 r, .bool b]) (.agg #[.int .i64 p, .int .i64 l, .int .i64 o, .int .i64 r, .bool b])).run Yba.prog w = .ok true w := by
  have hS : Yba.prog.underlying 31 = some (.struct (Yba.prog.fieldsOf 31)) := by kernel_rfl
  have hp : Yba.prog.stoodInHeld 31 = false := by kernel_rfl
  rw [run_equalIn_agg w (d + 1) 31 _ _ hS hp]
  simp only [Program.fieldsOf, Yba.underlying31]
  go_simp
theorem eq32 (q : Nat → Rp) (w : World) : (Op.equalIn 10000 32 (.agg (dstOf q)) (.agg (dstOf q))).run Yba.prog w = .ok true w := by
  have c : Yba.prog.cellsOf 31 = 5 := by kernel_rfl
  rw [show (10000 : Nat) = 9999 + 1 from rfl, run_equalIn_array w 9999 _ _ Yba.underlying32 (i := (Yba.prog.info? 31).get!) (by kernel_rfl), c]
  have p0 : ∀ w, (part 31 (dstOf q) (0 * 5)).run Yba.prog w = .ok (.agg #[.int .i64 (q 0).P, .int .i64 (q 0).l, .int .i64 ((q 0).o % 4), .int .i64 ((q 0).r % 4), .bool (q 0).b]) w := fun w => by
    have := Yba.isAgg31; have := Yba.sizeOf31; simp only [dstOf]; go_simp
  have p1 : ∀ w, (part 31 (dstOf q) (1 * 5)).run Yba.prog w = .ok (.agg #[.int .i64 (q 1).P, .int .i64 (q 1).l, .int .i64 ((q 1).o % 4), .int .i64 ((q 1).r % 4), .bool (q 1).b]) w := fun w => by
    have := Yba.isAgg31; have := Yba.sizeOf31; simp only [dstOf]; go_simp
  have p2 : ∀ w, (part 31 (dstOf q) (2 * 5)).run Yba.prog w = .ok (.agg #[.int .i64 (q 2).P, .int .i64 (q 2).l, .int .i64 ((q 2).o % 4), .int .i64 ((q 2).r % 4), .bool (q 2).b]) w := fun w => by
    have := Yba.isAgg31; have := Yba.sizeOf31; simp only [dstOf]; go_simp
  rw [show List.range 3 = [0, 1, 2] from rfl]
  simp only [Op.eqItems, Sem.run_bind, p0, p1, p2, Result.andThen_ok, struct31 9997, Bool.not_true, Bool.false_eq_true, if_false, Sem.run_pure]
theorem neq32 (q : Nat → Rp) (w : World) : (binOp .neq 32 (.agg (dstOf q)) (.agg (dstOf q))).run Yba.prog w = .ok (.bool false) w := by
  rw [run_neq_struct, eq32]; rfl
theorem eq35 (a b c : Int) (w : World) : (binOp .eql 35 (.agg #[.int .i64 a, .int .i64 b, .int .i64 c]) (.agg #[.int .i64 a, .int .i64 b, .int .i64 c])).run Yba.prog w = .ok (.bool true) w := by
  have c1 : Yba.prog.cellsOf 3 = 1 := by kernel_rfl
  have u3 := Yba.underlying3
  have a3 := Yba.isAgg3
  rw [run_eql_struct, show (10000 : Nat) = 9999 + 1 from rfl, run_equalIn_array w 9999 _ _ Yba.underlying35 (i := (Yba.prog.info? 3).get!) (by kernel_rfl), c1]
  rw [show List.range 3 = [0, 1, 2] from rfl]
  simp only [Op.eqItems, Sem.run_bind]
  go_simp

theorem setRow_alloc (w : World) (old cs : Array Value) (t : TypeId) : (w.alloc (.cells old t)).setRow w.heap.size cs = w.alloc (.cells cs t) := by
  show ({ (w.alloc (.cells old t)) with heap := _ } : World) = { w with heap := _ }
  show ({ w with heap := _ } : World) = { w with heap := _ }
  congr 1
  show (w.heap.push _).modify w.heap.size _ = w.heap.push _
  apply Array.ext_getElem?
  intro i
  rw [Array.getElem?_modify, Array.getElem?_push, Array.getElem?_push]
  by_cases h : i = w.heap.size
  · simp [h]
  · rw [if_neg (fun e => h e.symm), if_neg h, if_neg h]

/-- A row stored into the block that was laid last. -/
theorem wpList_store_new {P : Program} {ops : Array Oper} {rest : List Oper} {o : Oper} {a : Act} {w : World} {Q : Exit → Act → World → Prop} (hgd : o.guard = none) (ty : TypeId) (x y : Operand) (ho : o.op = .store ty x y)
    (cells : Array Value) (hx : a.eval x = .pointer (some ⟨w.heap.size, 0, none⟩)) (hy : a.eval y = .agg cells)
    (t : TypeId) (old : Array Value) (hi : (P.info? ty).map (·.size) = some cells.size)
    (hold : old.size = cells.size) (h1 : cells.all (·.oneCell') = true)
    (h : wpList P ops Q rest (a.put o.dst undef) (w.alloc (.cells cells t))) : wpList P ops Q (o :: rest) a (w.alloc (.cells old t)) :=
  wpList_store_row hgd ty x y ho w.heap.size cells hx hy t old (heap_alloc_new w _) hi hold h1 (by rw [setRow_alloc]; exact h)
end Go.Proofs.Ybulkdczq
