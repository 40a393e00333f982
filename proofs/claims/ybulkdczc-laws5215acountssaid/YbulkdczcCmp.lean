/-
  THE WALKS of cmp.Compare[uint64] (14), letter.channel (15), letter.channelCompare (10).
-/
import Derived.Test.YbulkdczcRows
import Derived.WalkKit
import Derived.WalkSpells
import Derived.WalkLawsBesides
import Derived.Shelf.SlSortCmp.QuietGrown
import Derived.Lib.Small
import Derived.Deep.RegionWith
namespace Go.Proofs.Ybulkdczc
open Go.RowKit Go.Sort

/-- A letter: to, from, message. -/
abbrev Let := UInt32 × UInt32 × UInt32
/-- Its three cells. -/
def encL (x : Let) : List Value := [.int .u32 x.1.toNat, .int .u32 x.2.1.toNat, .int .u32 x.2.2.toNat]
/-- Its channel's number. -/
def chan (a b : Nat) : Nat := a * 4294967296 + b
def ch (x : Let) : Nat := chan x.1.toNat x.2.1.toNat
def cfL (x y : Let) : Int := Lib.compareInt (ch x) (ch y)

set_option maxHeartbeats 400000 in
theorem compare_any (x y : Int) (w : World) :
    Calls Yba.prog 14 #[.int .u64 x, .int .u64 y] w fun e w' => e = .returned (.int .i64 (Lib.compareInt x y)) ∧ w' = w := by
  by_cases h1 : x < y
  · have e : Lib.compareInt x y = -1 := by simp [Lib.compareInt, h1]
    rw [e]
    go_enter Yba.func14, Yba.ntmps14
    go_wp2
    go_ret
    exact ⟨rfl, rfl⟩
  · by_cases h2 : y < x
    · have e : Lib.compareInt x y = 1 := by simp [Lib.compareInt, h1, h2]
      rw [e]
      go_enter Yba.func14, Yba.ntmps14
      go_wp2
      go_ret
      exact ⟨rfl, rfl⟩
    · have e : Lib.compareInt x y = 0 := by simp [Lib.compareInt, h1, h2]
      rw [e]
      go_enter Yba.func14, Yba.ntmps14
      go_wp2
      go_ret
      exact ⟨rfl, rfl⟩

theorem compare_grown (x y : Int) (w : World) :
    Calls Yba.prog 14 #[.int .u64 x, .int .u64 y] w fun e w' => e = .returned (.int .i64 (Lib.compareInt x y)) ∧ ∃ q os, w' = grow (w.drewN q) os :=
  (compare_any x y w).mono fun _ _ ⟨h, h'⟩ => ⟨h, 0, #[], by rw [grow_empty, h']; rfl⟩

theorem chan_or (a b : Nat) (ha : a < 4294967296) (hb : b < 4294967296) : bits .or .u64 ((a : Int) * 4294967296) (b : Int) = ((chan a b : Nat) : Int) := by
  have h := bits_or_u64_nat (a * 4294967296) b (by omega) (by omega)
  have e : a * 4294967296 ||| b = a * 4294967296 + b := by
    have := Nat.two_pow_add_eq_or_of_lt (i := 32) (b := b) (by simpa using hb) a
    rw [Nat.mul_comm]
    simpa using this.symm
  rw [e] at h
  have e2 : ((a * 4294967296 : Nat) : Int) = (a : Int) * 4294967296 := by omega
  rw [e2] at h
  exact h

set_option maxHeartbeats 400000 in
theorem channel_any (a b c : Nat) (ha : a < 4294967296) (hb : b < 4294967296) (w : World) :
    Calls Yba.prog 15 #[.agg #[.int .u32 a, .int .u32 b, .int .u32 c]] w fun e w' => e = .returned (.int .u64 (chan a b : Nat)) ∧ ∃ q os, w' = grow (w.drewN q) os := by
  go_enter Yba.func15, Yba.ntmps15
  go_wp2
  go_ret
  refine ⟨?_, 0, _, alloc_eq_grow _ _⟩
  show Ending.returned (.int .u64 (bits BinOp.or IntKind.u64 (↑a * 4294967296) ↑b)) = _
  rw [chan_or a b ha hb]

theorem Yba.mixed : Yba.prog.follows .mixedOrders = true := by kernel_rfl

theorem two_cells (W : World) (p0 p1 p2 q0 q1 q2 : Nat) :
    let W1 := (W.alloc (Obj.cells #[Value.int IntKind.u32 p0, Value.int IntKind.u32 p1, Value.int IntKind.u32 p2] 28)).alloc (Obj.cells #[Value.int IntKind.u32 q0, Value.int IntKind.u32 q1, Value.int IntKind.u32 q2] 28)
    W1.heap.size = W.heap.size + 2 ∧ W1.cell? ⟨W.heap.size, 0, none⟩ = some (.int .u32 p0) ∧ W1.cell? ⟨W.heap.size, 1, none⟩ = some (.int .u32 p1) ∧ W1.cell? ⟨W.heap.size, 2, none⟩ = some (.int .u32 p2) ∧
    W1.cell? ⟨W.heap.size + 1, 0, none⟩ = some (.int .u32 q0) ∧ W1.cell? ⟨W.heap.size + 1, 1, none⟩ = some (.int .u32 q1) ∧ W1.cell? ⟨W.heap.size + 1, 2, none⟩ = some (.int .u32 q2) := by
  refine ⟨by simp, ?_, ?_, ?_, ?_, ?_, ?_⟩ <;> simp [go_sem]

set_option maxHeartbeats 1000000 in
theorem channelCompare_any (x y : Let) (W : World) :
    Calls Yba.prog 10 #[.agg (encL x).toArray, .agg (encL y).toArray] W fun e w' => e = .returned (.int .i64 (cfL x y)) ∧ ∃ q os', w' = grow (W.drewN q) os' := by
  obtain ⟨x0, x1, x2⟩ := x
  obtain ⟨y0, y1, y2⟩ := y
  have b0 := x0.toNat_lt; have b1 := x1.toNat_lt; have c0 := y0.toNat_lt; have c1 := y1.toNat_lt
  simp only [encL, cfL, ch]
  generalize x0.toNat = p0 at *
  generalize x1.toNat = p1 at *
  generalize x2.toNat = p2 at *
  generalize y0.toNat = q0 at *
  generalize y1.toNat = q1 at *
  generalize y2.toNat = q2 at *
  have h15 := fun W' => channel_any p0 p1 p2 b0 b1 W'
  have h15' := fun W' => channel_any q0 q1 q2 c0 c1 W'
  have h14 := fun W' => compare_grown (chan p0 p1) (chan q0 q1) W'
  generalize Lib.compareInt (chan p0 p1) (chan q0 q1) = r at *
  have H15 : Hid _ := h15
  have H15' : Hid _ := h15'
  have H14 : Hid _ := h14
  have mixed := Yba.mixed
  clear h15 h15' h14
  go_enter Yba.func10, Yba.ntmps10
  go_wp2_with fail
  have hW1 : (W.alloc (Obj.cells #[Value.int IntKind.u32 p0, Value.int IntKind.u32 p1, Value.int IntKind.u32 p2] 28)).alloc (Obj.cells #[Value.int IntKind.u32 q0, Value.int IntKind.u32 q1, Value.int IntKind.u32 q2] 28) = grow W #[Obj.cells #[Value.int IntKind.u32 p0, Value.int IntKind.u32 p1, Value.int IntKind.u32 p2] 28, Obj.cells #[Value.int IntKind.u32 q0, Value.int IntKind.u32 q1, Value.int IntKind.u32 q2] 28] := by
    rw [alloc_eq_grow, alloc_eq_grow, grow_grow]; rfl
  have k0 := two_cells W p0 p1 p2 q0 q1 q2
  generalize hW2 : (W.alloc (Obj.cells #[Value.int IntKind.u32 p0, Value.int IntKind.u32 p1, Value.int IntKind.u32 p2] 28)).alloc (Obj.cells #[Value.int IntKind.u32 q0, Value.int IntKind.u32 q1, Value.int IntKind.u32 q2] 28) = W1 at *
  have HW : Hid _ := hW1
  clear hW1 hW2
  obtain ⟨hsz, k1, k2, k3, k4, k5, k6⟩ := k0
  have l1 := cell_grown (by show W.heap.size < W1.heap.size; omega) k1
  have l2 := cell_grown (by show W.heap.size < W1.heap.size; omega) k2
  have l3 := cell_grown (by show W.heap.size < W1.heap.size; omega) k3
  have l4 := cell_grown (by show W.heap.size + 1 < W1.heap.size; omega) k4
  have l5 := cell_grown (by show W.heap.size + 1 < W1.heap.size; omega) k5
  have l6 := cell_grown (by show W.heap.size + 1 < W1.heap.size; omega) k6
  clear k1 k2 k3 k4 k5 k6 hsz
  go_quiet_grown (first | (go_at_call_of 15 (Value.agg #[Value.int IntKind.u32 p0, Value.int IntKind.u32 p1, Value.int IntKind.u32 p2]); refine Calls.grown_of (H15.out _)) | (go_at_call 15; refine Calls.grown_of (H15'.out _)) | (go_at_call 14; refine Calls.grown_of (H14.out _)))
  go_wp2
  go_ret
  exact ⟨rfl, nq, _, by rw [HW.out]; exact grow_grow (W.drewN nq) _ _⟩

end Go.Proofs.Ybulkdczc
