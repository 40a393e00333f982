/-
  THE WALK of zzs5216btally (6).
-/
import Derived.Test.YbulkdczqRows
import Derived.WalkKit
import Derived.WalkSpells
import Derived.WalkLawsBesides
import Derived.LoopN
import Derived.Below
namespace Go.Proofs.Ybulkdczq
open Go.RowKit

def s16 (x : Int) : Prop := -32768 ≤ x ∧ x ≤ 32767

set_option maxHeartbeats 4000000 in
set_option maxRecDepth 100000 in
theorem tally_any (ops p0 p1 p2 o0 o1 o2 : Int) (w : World) (h0 : s16 p0) (h1 : s16 p1) (h2 : s16 p2) (k0 : s16 o0) (k1 : s16 o1) (k2 : s16 o2) :
    Calls Yba.prog 6 #[.agg #[.int .u8 ops, .int .i16 p0, .int .i16 p1, .int .i16 p2, .int .i16 o0, .int .i16 o1, .int .i16 o2]] w fun e w' =>
      e = .returned (.agg #[.int .u8 ops, .int .i64 p0, .int .i64 p1, .int .i64 p2, .int .i64 o0, .int .i64 o1, .int .i64 o2]) ∧ Below w.heap.size w w' := by
  obtain ⟨_, _⟩ := h0; obtain ⟨_, _⟩ := h1; obtain ⟨_, _⟩ := h2; obtain ⟨_, _⟩ := k0; obtain ⟨_, _⟩ := k1; obtain ⟨_, _⟩ := k2
  go_enter Yba.func6, Yba.ntmps6
  go_wp2_with fail
  refine wp_loop_rounds 4 ?_
  rw [rounds_succ]
  go_wp2_with fail
  rw [rounds_succ]
  go_wp2_with fail
  rw [rounds_succ]
  go_wp2_with fail
  rw [rounds_succ]
  go_wp2_with fail
  exact bodyPost_ret (v := .agg #[.int .u8 ops, .int .i64 p0, .int .i64 p1, .int .i64 p2, .int .i64 o0, .int .i64 o1, .int .i64 o2]) (by simp [results, Yba.results6, go_sem]) rfl ⟨rfl, by repeat (first | exact Below.refl _ _ | apply Below.drew | (refine Below.alloc ?_ (by simp; try omega) _))⟩

end Go.Proofs.Ybulkdczq
