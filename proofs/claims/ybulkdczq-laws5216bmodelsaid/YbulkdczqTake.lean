/-
  THE WALK of hqcTally.take (7).
-/
import Derived.Test.YbulkdczqOpen
import Derived.RegionTactic
import Derived.BigRegion
import Derived.Deep.QuietTactic
import Derived.BigQuiet
import Derived.Deep.LoopGhost
import Derived.Lib.Builder
namespace Go.Proofs.Ybulkdczq
open Go.RowKit

/-- A pick: parts, lo, of, rest, ofInRest. -/
structure Pk where
  P : Int
  lo : Int
  o : Int
  r : Int
  b : Bool
def Pk.ok (p : Pk) : Prop := (-32768 ≤ p.P ∧ p.P ≤ 32767) ∧ (-32768 ≤ p.lo ∧ p.lo ≤ 32767) ∧ (0 ≤ p.o ∧ p.o ≤ 3) ∧ (0 ≤ p.r ∧ p.r ≤ 3)
/-- A tally: ops, parts, of. -/
structure Ty where
  ops : Int
  p0 : Int
  p1 : Int
  p2 : Int
  o0 : Int
  o1 : Int
  o2 : Int
def Ty.parts (t : Ty) : Nat → Int | 0 => t.p0 | 1 => t.p1 | _ => t.p2
def Ty.of (t : Ty) : Nat → Int | 0 => t.o0 | 1 => t.o1 | _ => t.o2
def Ty.cells (t : Ty) : Array Value := #[.int .u8 t.ops, .int .i64 t.p0, .int .i64 t.p1, .int .i64 t.p2, .int .i64 t.o0, .int .i64 t.o1, .int .i64 t.o2]
def i16 (x : Int) : Prop := -32768 ≤ x ∧ x ≤ 32767
def Ty.ok (t : Ty) : Prop := (0 ≤ t.ops ∧ t.ops ≤ 255) ∧ i16 t.p0 ∧ i16 t.p1 ∧ i16 t.p2 ∧ i16 t.o0 ∧ i16 t.o1 ∧ i16 t.o2

/-- The counts of op after the children, or none where op drops out. -/
def cnt (t : Ty) (p : Pk) (got K : Int) (op : Nat) : Option (Int × Int) :=
  if hasB t.ops op then
    if got = 0 then some (t.parts op, t.of op)
    else if hasB got p.o then some (t.parts op + K, t.of op + K)
    else if hasB got p.r then some (t.parts op + K, t.of op)
    else none
  else none
/-- .. where they can still close. -/
def outc (t : Ty) (p : Pk) (got K L : Int) (op : Nat) : Option (Int × Int) :=
  match cnt t p got K op with
  | some (a, b) => if openB p.P p.lo p.b a b L then some (a, b) else none
  | none => none
/-- op laid in. -/
def Ty.add (s : Ty) : Nat → Int × Int → Ty
  | 0, (a, b) => { s with ops := bits BinOp.or IntKind.u8 s.ops 1, p0 := a, o0 := b }
  | 1, (a, b) => { s with ops := bits BinOp.or IntKind.u8 s.ops 2, p1 := a, o1 := b }
  | _, (a, b) => { s with ops := bits BinOp.or IntKind.u8 s.ops 4, p2 := a, o2 := b }
def Ty.step (s : Ty) (op : Nat) : Option (Int × Int) → Ty
  | some x => s.add op x
  | none => s
def zeroT : Ty := ⟨0, 0, 0, 0, 0, 0, 0⟩
def upTo (t : Ty) (ps : Nat → Pk) (got K L : Int) : Nat → Ty
  | 0 => zeroT
  | i + 1 => (upTo t ps got K L i).step i (outc t (ps i) got K L i)

/-- Block nb holds s; below N all else is as it was. -/
def InvT (N nb : Nat) (w0 : World) (s : Ty) (w : World) : Prop :=
  nb < N ∧ N ≤ w.heap.size ∧ w.os = w0.os ∧ w.tape = w0.tape ∧ w.output = w0.output ∧ (∀ k, k < N → k ≠ nb → w.heap[k]? = w0.heap[k]?) ∧ w.heap[nb]? = some (.cells s.cells 37 (0, 0))

theorem Yba.mixed : Yba.prog.follows .mixedOrders = true := by kernel_rfl

/-- The three blocks that take lays first: the tally, the result, next. -/
theorem three_start (w : World) (t : Ty) : InvT (w.heap.size + 3) (w.heap.size + 2) (((w.alloc (Obj.cells #[Value.int IntKind.u8 t.ops, Value.int IntKind.i64 t.p0, Value.int IntKind.i64 t.p1, Value.int IntKind.i64 t.p2, Value.int IntKind.i64 t.o0, Value.int IntKind.i64 t.o1, Value.int IntKind.i64 t.o2] 37)).alloc (Obj.cells #[Value.int IntKind.u8 0, Value.int IntKind.i64 0, Value.int IntKind.i64 0, Value.int IntKind.i64 0, Value.int IntKind.i64 0, Value.int IntKind.i64 0, Value.int IntKind.i64 0] 37)).alloc (Obj.cells #[Value.int IntKind.u8 0, Value.int IntKind.i64 0, Value.int IntKind.i64 0, Value.int IntKind.i64 0, Value.int IntKind.i64 0, Value.int IntKind.i64 0, Value.int IntKind.i64 0] 37)) zeroT (((w.alloc (Obj.cells #[Value.int IntKind.u8 t.ops, Value.int IntKind.i64 t.p0, Value.int IntKind.i64 t.p1, Value.int IntKind.i64 t.p2, Value.int IntKind.i64 t.o0, Value.int IntKind.i64 t.o1, Value.int IntKind.i64 t.o2] 37)).alloc (Obj.cells #[Value.int IntKind.u8 0, Value.int IntKind.i64 0, Value.int IntKind.i64 0, Value.int IntKind.i64 0, Value.int IntKind.i64 0, Value.int IntKind.i64 0, Value.int IntKind.i64 0] 37)).alloc (Obj.cells #[Value.int IntKind.u8 0, Value.int IntKind.i64 0, Value.int IntKind.i64 0, Value.int IntKind.i64 0, Value.int IntKind.i64 0, Value.int IntKind.i64 0, Value.int IntKind.i64 0] 37)) ∧ (∀ j v, t.cells[j]? = some v → (((w.alloc (Obj.cells #[Value.int IntKind.u8 t.ops, Value.int IntKind.i64 t.p0, Value.int IntKind.i64 t.p1, Value.int IntKind.i64 t.p2, Value.int IntKind.i64 t.o0, Value.int IntKind.i64 t.o1, Value.int IntKind.i64 t.o2] 37)).alloc (Obj.cells #[Value.int IntKind.u8 0, Value.int IntKind.i64 0, Value.int IntKind.i64 0, Value.int IntKind.i64 0, Value.int IntKind.i64 0, Value.int IntKind.i64 0, Value.int IntKind.i64 0] 37)).alloc (Obj.cells #[Value.int IntKind.u8 0, Value.int IntKind.i64 0, Value.int IntKind.i64 0, Value.int IntKind.i64 0, Value.int IntKind.i64 0, Value.int IntKind.i64 0, Value.int IntKind.i64 0] 37)).cell? ⟨w.heap.size, j, none⟩ = some v) ∧ (((w.alloc (Obj.cells #[Value.int IntKind.u8 t.ops, Value.int IntKind.i64 t.p0, Value.int IntKind.i64 t.p1, Value.int IntKind.i64 t.p2, Value.int IntKind.i64 t.o0, Value.int IntKind.i64 t.o1, Value.int IntKind.i64 t.o2] 37)).alloc (Obj.cells #[Value.int IntKind.u8 0, Value.int IntKind.i64 0, Value.int IntKind.i64 0, Value.int IntKind.i64 0, Value.int IntKind.i64 0, Value.int IntKind.i64 0, Value.int IntKind.i64 0] 37)).alloc (Obj.cells #[Value.int IntKind.u8 0, Value.int IntKind.i64 0, Value.int IntKind.i64 0, Value.int IntKind.i64 0, Value.int IntKind.i64 0, Value.int IntKind.i64 0, Value.int IntKind.i64 0] 37)).heap[w.heap.size + 1]? = some (.cells zeroT.cells 37 (0, 0)) := by
  have h0 : (((w.alloc (Obj.cells #[Value.int IntKind.u8 t.ops, Value.int IntKind.i64 t.p0, Value.int IntKind.i64 t.p1, Value.int IntKind.i64 t.p2, Value.int IntKind.i64 t.o0, Value.int IntKind.i64 t.o1, Value.int IntKind.i64 t.o2] 37)).alloc (Obj.cells #[Value.int IntKind.u8 0, Value.int IntKind.i64 0, Value.int IntKind.i64 0, Value.int IntKind.i64 0, Value.int IntKind.i64 0, Value.int IntKind.i64 0, Value.int IntKind.i64 0] 37)).alloc (Obj.cells #[Value.int IntKind.u8 0, Value.int IntKind.i64 0, Value.int IntKind.i64 0, Value.int IntKind.i64 0, Value.int IntKind.i64 0, Value.int IntKind.i64 0, Value.int IntKind.i64 0] 37)).heap[w.heap.size]? = some (.cells t.cells 37 (0, 0)) := by
    show (((w.heap.push _).push _).push _)[w.heap.size]? = _
    rw [Array.getElem?_push, if_neg (by simp; omega), Array.getElem?_push, if_neg (by simp), Array.getElem?_push, if_pos rfl]; rfl
  have h1 : (((w.alloc (Obj.cells #[Value.int IntKind.u8 t.ops, Value.int IntKind.i64 t.p0, Value.int IntKind.i64 t.p1, Value.int IntKind.i64 t.p2, Value.int IntKind.i64 t.o0, Value.int IntKind.i64 t.o1, Value.int IntKind.i64 t.o2] 37)).alloc (Obj.cells #[Value.int IntKind.u8 0, Value.int IntKind.i64 0, Value.int IntKind.i64 0, Value.int IntKind.i64 0, Value.int IntKind.i64 0, Value.int IntKind.i64 0, Value.int IntKind.i64 0] 37)).alloc (Obj.cells #[Value.int IntKind.u8 0, Value.int IntKind.i64 0, Value.int IntKind.i64 0, Value.int IntKind.i64 0, Value.int IntKind.i64 0, Value.int IntKind.i64 0, Value.int IntKind.i64 0] 37)).heap[w.heap.size + 1]? = some (.cells zeroT.cells 37 (0, 0)) := by
    show (((w.heap.push _).push _).push _)[w.heap.size + 1]? = _
    rw [Array.getElem?_push, if_neg (by simp), Array.getElem?_push, if_pos (by simp)]; rfl
  have h2 : (((w.alloc (Obj.cells #[Value.int IntKind.u8 t.ops, Value.int IntKind.i64 t.p0, Value.int IntKind.i64 t.p1, Value.int IntKind.i64 t.p2, Value.int IntKind.i64 t.o0, Value.int IntKind.i64 t.o1, Value.int IntKind.i64 t.o2] 37)).alloc (Obj.cells #[Value.int IntKind.u8 0, Value.int IntKind.i64 0, Value.int IntKind.i64 0, Value.int IntKind.i64 0, Value.int IntKind.i64 0, Value.int IntKind.i64 0, Value.int IntKind.i64 0] 37)).alloc (Obj.cells #[Value.int IntKind.u8 0, Value.int IntKind.i64 0, Value.int IntKind.i64 0, Value.int IntKind.i64 0, Value.int IntKind.i64 0, Value.int IntKind.i64 0, Value.int IntKind.i64 0] 37)).heap[w.heap.size + 2]? = some (.cells zeroT.cells 37 (0, 0)) := by
    show (((w.heap.push _).push _).push _)[w.heap.size + 2]? = _
    rw [Array.getElem?_push, if_pos (by simp)]; rfl
  refine ⟨⟨by omega, by simp, rfl, rfl, rfl, fun _ _ _ => rfl, h2⟩, fun j v hj => ?_, h1⟩
  rw [Lib.cell_of_heap h0]; exact hj

theorem InvT.cell {N nb : Nat} {w0 w : World} {s : Ty} (h : InvT N nb w0 s w) {k o : Nat} (hk : k < N) (hne : k ≠ nb) : w.cell? ⟨k, o, none⟩ = w0.cell? ⟨k, o, none⟩ :=
  World.cell?_of_block (h.2.2.2.2.2.1 k hk hne)
theorem InvT.alloc_draws {N nb : Nat} {w0 w : World} {s : Ty} (h : InvT N nb w0 s w) (o : Obj) (n : Nat) : InvT N nb w0 s ((w.alloc o).drewN n) := by
  obtain ⟨h1, h2, h3, h4, h5, h6, h7⟩ := h
  refine ⟨h1, ?_, h3, h4, h5, fun k hk hne => ?_, ?_⟩
  · show N ≤ (w.heap.push o).size; rw [Array.size_push]; omega
  · show (w.heap.push o)[k]? = _; rw [Array.getElem?_push, if_neg (by omega)]; exact h6 k hk hne
  · show (w.heap.push o)[nb]? = _; rw [Array.getElem?_push, if_neg (by omega)]; exact h7
theorem InvT.below {N nb : Nat} {w0 w w' : World} {s : Ty} (h : InvT N nb w0 s w) (hb : Below w.heap.size w w') : InvT N nb w0 s w' := by
  obtain ⟨h1, h2, h3, h4, h5, h6, h7⟩ := h
  refine ⟨h1, Nat.le_trans h2 hb.size, hb.os.trans h3, hb.tape.trans h4, hb.output.trans h5, fun k hk hne => ?_, ?_⟩
  · rw [hb.block k (by omega)]; exact h6 k hk hne
  · rw [hb.block nb (by omega)]; exact h7
theorem InvT.own {N nb : Nat} {w0 w : World} {s : Ty} (h : InvT N nb w0 s w) (j : Nat) (v : Value) (hj : s.cells[j]? = some v) : w.cell? ⟨nb, j, none⟩ = some v := by
  rw [Lib.cell_of_heap h.2.2.2.2.2.2]; exact hj
theorem InvT.soft {N nb : Nat} {w0 w : World} {s : Ty} (h : InvT N nb w0 s w) (j : Nat) : w.frozen? ⟨nb, j, none⟩ = false := Lib.frozen_of_heap h.2.2.2.2.2.2 j
/-- Three stores into the block. -/
theorem InvT.put {N nb : Nat} {w0 w : World} {s s' : Ty} (h : InvT N nb w0 s w) (j0 j1 j2 : Nat) (v0 v1 v2 : Value) (hs : ((s.cells.setIfInBounds j0 v0).setIfInBounds j1 v1).setIfInBounds j2 v2 = s'.cells) :
    InvT N nb w0 s' ((((w.setCell ⟨nb, j0, none⟩ v0).setCell ⟨nb, j1, none⟩ v1).setCell ⟨nb, j2, none⟩ v2).drew) := by
  obtain ⟨h1, h2, h3, h4, h5, h6, h7⟩ := h
  refine ⟨h1, ?_, h3, h4, h5, fun k hk hne => ?_, ?_⟩
  · show N ≤ (((w.setCell ⟨nb, j0, none⟩ v0).setCell ⟨nb, j1, none⟩ v1).setCell ⟨nb, j2, none⟩ v2).heap.size
    simpa [World.setCell] using h2
  · show (((w.setCell ⟨nb, j0, none⟩ v0).setCell ⟨nb, j1, none⟩ v1).setCell ⟨nb, j2, none⟩ v2).heap[k]? = _
    rw [Below.heap_setCell _ _ _ _ hne, Below.heap_setCell _ _ _ _ hne, Below.heap_setCell _ _ _ _ hne]; exact h6 k hk hne
  · show (((w.setCell ⟨nb, j0, none⟩ v0).setCell ⟨nb, j1, none⟩ v1).setCell ⟨nb, j2, none⟩ v2).heap[nb]? = _
    simp [World.setCell, Array.getElem?_modify, h7, hs]
theorem InvT.set0 {N nb : Nat} {w0 w : World} {s : Ty} (h : InvT N nb w0 s w) (a b : Int) : InvT N nb w0 (s.add 0 (a, b)) ((((w.setCell ⟨nb, 0, none⟩ (.int .u8 (bits BinOp.or IntKind.u8 s.ops 1))).setCell ⟨nb, 1, none⟩ (.int .i64 a)).setCell ⟨nb, 4, none⟩ (.int .i64 b)).drew) := h.put 0 1 4 _ _ _ rfl
theorem InvT.set1 {N nb : Nat} {w0 w : World} {s : Ty} (h : InvT N nb w0 s w) (a b : Int) : InvT N nb w0 (s.add 1 (a, b)) ((((w.setCell ⟨nb, 0, none⟩ (.int .u8 (bits BinOp.or IntKind.u8 s.ops 2))).setCell ⟨nb, 2, none⟩ (.int .i64 a)).setCell ⟨nb, 5, none⟩ (.int .i64 b)).drew) := h.put 0 2 5 _ _ _ rfl
theorem InvT.set2 {N nb : Nat} {w0 w : World} {s : Ty} (h : InvT N nb w0 s w) (a b : Int) : InvT N nb w0 (s.add 2 (a, b)) ((((w.setCell ⟨nb, 0, none⟩ (.int .u8 (bits BinOp.or IntKind.u8 s.ops 4))).setCell ⟨nb, 3, none⟩ (.int .i64 a)).setCell ⟨nb, 6, none⟩ (.int .i64 b)).drew) := h.put 0 3 6 _ _ _ rfl
theorem take_r {w W0 wr : World} {s : Ty} (h : InvT (w.heap.size + 3) (w.heap.size + 2) W0 s wr) (hc : W0.heap[w.heap.size + 1]? = some (.cells zeroT.cells 37 (0, 0))) : (∀ j v, zeroT.cells[j]? = some v → wr.cell? ⟨w.heap.size + 1, j, none⟩ = some v) ∧ ∀ j, wr.frozen? ⟨w.heap.size + 1, j, none⟩ = false := by
  have h1 : wr.heap[w.heap.size + 1]? = some (.cells zeroT.cells 37 (0, 0)) := (h.2.2.2.2.2.1 _ (by omega) (by omega)).trans hc
  exact ⟨fun j v hj => by rw [Lib.cell_of_heap h1]; exact hj, fun j => Lib.frozen_of_heap h1 j⟩
theorem InvT.old {N nb B : Nat} {w0 w : World} {s : Ty} (h : InvT N nb w0 s w) (hB : B ≤ nb) (hs : w0.heap.size ≤ N := by assumption) : Below B w0 w :=
  ⟨h.2.2.1, h.2.2.2.1, h.2.2.2.2.1, Nat.le_trans hs h.2.1, fun k hk => h.2.2.2.2.2.1 k (by have := h.1; omega) (by omega)⟩
theorem take_t {w W0 wr : World} {s t : Ty} (h : InvT (w.heap.size + 3) (w.heap.size + 2) W0 s wr) (hc : ∀ j v, t.cells[j]? = some v → W0.cell? ⟨w.heap.size, j, none⟩ = some v) (j : Nat) (v : Value) (hj : t.cells[j]? = some v) : wr.cell? ⟨w.heap.size, j, none⟩ = some v :=
  (h.cell (by omega) (by omega)).trans (hc j v hj)
theorem take_p {w W0 wr : World} {s : Ty} {pb : Nat} (h : InvT (w.heap.size + 3) (w.heap.size + 2) W0 s wr) (hc : ∀ j, W0.cell? ⟨pb, j, none⟩ = w.cell? ⟨pb, j, none⟩) (hpb : pb < w.heap.size) (j : Nat) : wr.cell? ⟨pb, j, none⟩ = w.cell? ⟨pb, j, none⟩ :=
  (h.cell (by omega) (by omega)).trans (hc j)

set_option maxHeartbeats 8000000 in
set_option maxRecDepth 100000 in
theorem take_any (t : Ty) (ps : Nat → Pk) (got K L : Int) (pb : Nat) (w : World) (hpb : pb < w.heap.size)
    (hp : ∀ i, i < 3 → w.cell? ⟨pb, i * 5, none⟩ = some (.int .i64 (ps i).P) ∧ w.cell? ⟨pb, i * 5 + 1, none⟩ = some (.int .i64 (ps i).lo) ∧ w.cell? ⟨pb, i * 5 + 2, none⟩ = some (.int .i64 (ps i).o) ∧ w.cell? ⟨pb, i * 5 + 3, none⟩ = some (.int .i64 (ps i).r) ∧ w.cell? ⟨pb, i * 5 + 4, none⟩ = some (.bool (ps i).b))
    (ht : t.ok) (hps : ∀ i, i < 3 → (ps i).ok) (hK : i16 K) :
    Calls Yba.prog 7 #[.agg t.cells, .pointer (some ⟨pb, 0, none⟩), .int .u8 got, .int .i64 K, .int .i64 L] w fun e w' => e = .returned (.agg (upTo t ps got K L 3).cells) ∧ Below w.heap.size w w' := by
  obtain ⟨hK1, hK2⟩ := hK
  have HP : Hid (∀ i, i < 3 → w.cell? ⟨pb, i * 5, none⟩ = some (.int .i64 (ps i).P) ∧ w.cell? ⟨pb, i * 5 + 1, none⟩ = some (.int .i64 (ps i).lo) ∧ w.cell? ⟨pb, i * 5 + 2, none⟩ = some (.int .i64 (ps i).o) ∧ w.cell? ⟨pb, i * 5 + 3, none⟩ = some (.int .i64 (ps i).r) ∧ w.cell? ⟨pb, i * 5 + 4, none⟩ = some (.bool (ps i).b)) := hp
  have HPS : Hid (∀ i, i < 3 → (ps i).ok) := hps
  have HT : Hid t.ok := ht
  clear hp hps ht
  simp only [Ty.cells]
  go_enter Yba.func7, Yba.ntmps7
  go_wp2_with fail
  have hw0s : ((((w.alloc (Obj.cells #[Value.int IntKind.u8 t.ops, Value.int IntKind.i64 t.p0, Value.int IntKind.i64 t.p1, Value.int IntKind.i64 t.p2, Value.int IntKind.i64 t.o0, Value.int IntKind.i64 t.o1, Value.int IntKind.i64 t.o2] 37)).alloc (Obj.cells #[Value.int IntKind.u8 0, Value.int IntKind.i64 0, Value.int IntKind.i64 0, Value.int IntKind.i64 0, Value.int IntKind.i64 0, Value.int IntKind.i64 0, Value.int IntKind.i64 0] 37)).alloc (Obj.cells #[Value.int IntKind.u8 0, Value.int IntKind.i64 0, Value.int IntKind.i64 0, Value.int IntKind.i64 0, Value.int IntKind.i64 0, Value.int IntKind.i64 0, Value.int IntKind.i64 0] 37))).heap.size ≤ w.heap.size + 3 := by simp
  have hst := three_start w t
  have hpk : ∀ j, (((w.alloc (Obj.cells #[Value.int IntKind.u8 t.ops, Value.int IntKind.i64 t.p0, Value.int IntKind.i64 t.p1, Value.int IntKind.i64 t.p2, Value.int IntKind.i64 t.o0, Value.int IntKind.i64 t.o1, Value.int IntKind.i64 t.o2] 37)).alloc (Obj.cells #[Value.int IntKind.u8 0, Value.int IntKind.i64 0, Value.int IntKind.i64 0, Value.int IntKind.i64 0, Value.int IntKind.i64 0, Value.int IntKind.i64 0, Value.int IntKind.i64 0] 37)).alloc (Obj.cells #[Value.int IntKind.u8 0, Value.int IntKind.i64 0, Value.int IntKind.i64 0, Value.int IntKind.i64 0, Value.int IntKind.i64 0, Value.int IntKind.i64 0, Value.int IntKind.i64 0] 37)).cell? ⟨pb, j, none⟩ = w.cell? ⟨pb, j, none⟩ := fun j => ((((Below.refl _ w).alloc (Nat.le_refl _) _).alloc (by simp) _).alloc (by simp; omega) _).cell (p := ⟨pb, j, none⟩) hpb
  have hbw : Below w.heap.size w (((w.alloc (Obj.cells #[Value.int IntKind.u8 t.ops, Value.int IntKind.i64 t.p0, Value.int IntKind.i64 t.p1, Value.int IntKind.i64 t.p2, Value.int IntKind.i64 t.o0, Value.int IntKind.i64 t.o1, Value.int IntKind.i64 t.o2] 37)).alloc (Obj.cells #[Value.int IntKind.u8 0, Value.int IntKind.i64 0, Value.int IntKind.i64 0, Value.int IntKind.i64 0, Value.int IntKind.i64 0, Value.int IntKind.i64 0, Value.int IntKind.i64 0] 37)).alloc (Obj.cells #[Value.int IntKind.u8 0, Value.int IntKind.i64 0, Value.int IntKind.i64 0, Value.int IntKind.i64 0, Value.int IntKind.i64 0, Value.int IntKind.i64 0, Value.int IntKind.i64 0] 37)) := (((Below.refl _ w).alloc (Nat.le_refl _) _).alloc (by simp) _).alloc (by simp; omega) _
  generalize (((w.alloc (Obj.cells #[Value.int IntKind.u8 t.ops, Value.int IntKind.i64 t.p0, Value.int IntKind.i64 t.p1, Value.int IntKind.i64 t.p2, Value.int IntKind.i64 t.o0, Value.int IntKind.i64 t.o1, Value.int IntKind.i64 t.o2] 37)).alloc (Obj.cells #[Value.int IntKind.u8 0, Value.int IntKind.i64 0, Value.int IntKind.i64 0, Value.int IntKind.i64 0, Value.int IntKind.i64 0, Value.int IntKind.i64 0, Value.int IntKind.i64 0] 37)).alloc (Obj.cells #[Value.int IntKind.u8 0, Value.int IntKind.i64 0, Value.int IntKind.i64 0, Value.int IntKind.i64 0, Value.int IntKind.i64 0, Value.int IntKind.i64 0, Value.int IntKind.i64 0] 37)) = W0 at *
  have HST : Hid (InvT (w.heap.size + 3) (w.heap.size + 2) W0 zeroT W0 ∧ (∀ j v, t.cells[j]? = some v → W0.cell? ⟨w.heap.size, j, none⟩ = some v) ∧ W0.heap[w.heap.size + 1]? = some (.cells zeroT.cells 37 (0, 0))) := hst
  have hW0s : W0.heap.size ≤ w.heap.size + 3 := hw0s
  clear hw0s
  have HPK : Hid (∀ j, W0.cell? ⟨pb, j, none⟩ = w.cell? ⟨pb, j, none⟩) := hpk
  have HBW : Hid (Below w.heap.size w W0) := hbw
  clear hst hpk hbw
  go_loopg [18] 3 (fun kx s wr => ∃ i : Nat, s = .int .i64 i ∧ i ≤ 3 ∧ 3 - i ≤ kx ∧ Hid (InvT (w.heap.size + 3) (w.heap.size + 2) W0 (upTo t ps got K L i) wr))
  case atStart => exact ⟨0, rfl, by omega, by omega, HST.out.1⟩
  case round =>
    obtain ⟨i, rfl, hi, hg2, HI⟩ := hrel
    rcases (show i = 0 ∨ i = 1 ∨ i = 2 ∨ i = 3 by omega) with rfl | rfl | rfl | rfl
    · have tc := fun j v hj => take_t HI.out HST.out.2.1 j v hj
      have t0 : wr.cell? ⟨w.heap.size, 0, none⟩ = some (.int .u8 t.ops) := tc 0 _ rfl
      have t1 : wr.cell? ⟨w.heap.size, 1, none⟩ = some (.int .i64 t.p0) := tc 1 _ rfl
      have t2 : wr.cell? ⟨w.heap.size, 4, none⟩ = some (.int .i64 t.o0) := tc 4 _ rfl
      have pc := fun j => take_p HI.out HPK.out hpb j
      have pq := HP.out 0 (by omega)
      rw [← pc (0 * 5), ← pc (0 * 5 + 1), ← pc (0 * 5 + 2), ← pc (0 * 5 + 3), ← pc (0 * 5 + 4)] at pq
      have pq0 : wr.cell? ⟨pb, 0, none⟩ = some (.int .i64 (ps 0).P) := pq.1
      have pq1 : wr.cell? ⟨pb, 1, none⟩ = some (.int .i64 (ps 0).lo) := pq.2.1
      have pq2 : wr.cell? ⟨pb, 2, none⟩ = some (.int .i64 (ps 0).o) := pq.2.2.1
      have pq3 : wr.cell? ⟨pb, 3, none⟩ = some (.int .i64 (ps 0).r) := pq.2.2.2.1
      have pq4 : wr.cell? ⟨pb, 4, none⟩ = some (.bool (ps 0).b) := pq.2.2.2.2
      obtain ⟨⟨_, _⟩, ⟨_, _⟩, ⟨ko0, ko3⟩, ⟨kr0, kr3⟩⟩ := HPS.out 0 (by omega)
      obtain ⟨_, ⟨_, _⟩, ⟨_, _⟩, ⟨_, _⟩, ⟨_, _⟩, ⟨_, _⟩, ⟨_, _⟩⟩ := HT.out
      have OC : Hid (upTo t ps got K L (0 + 1) = (upTo t ps got K L 0).step 0 (outc t (ps 0) got K L 0)) := rfl
      have sz := HI.out.2.1
      have lp : pb < wr.heap.size := by omega
      have lt : w.heap.size < wr.heap.size := by omega
      have ln : w.heap.size + 2 < wr.heap.size := by omega
      clear tc pc pq
      generalize ps 0 = pk at *
      cases a1 : hasB t.ops 0 with
      | false =>
        have HA : Hid (∀ W, Calls Yba.prog 8 #[.int .u8 t.ops, .int .i64 0] W fun e w' => e = .returned (.bool false) ∧ w' = W) := fun W => by have := has_any t.ops 0 (by omega) (by omega) W; rwa [a1] at this
        have EQ : Hid (upTo t ps got K L (0 + 1) = upTo t ps got K L 0) := by
          show _ = _; rw [OC.out]
          have hc : cnt t pk got K 0 = none := by unfold cnt; rw [if_neg (by simp [a1])]
          simp only [outc, hc, Ty.step]
        clear a1
        go_wp2_with fail
        go_region
        go_wp2_with fail
        go_quiet (fail)
        go_wp2_with fail
        refine (HA.out _).mono ?_
        rintro e w2 ⟨rfl, hw2⟩
        subst hw2
        go_wp2_with fail
        go_roundg (3 - (0 + 1))
        case measure => omega
        case rel => exact ⟨0 + 1, by go_num, by omega, Nat.le_refl _, by show InvT _ _ _ _ _; rw [EQ.out]; exact HI.out.alloc_draws _ _⟩
      | true =>
        have HA : Hid (∀ W, Calls Yba.prog 8 #[.int .u8 t.ops, .int .i64 0] W fun e w' => e = .returned (.bool true) ∧ w' = W) := fun W => by have := has_any t.ops 0 (by omega) (by omega) W; rwa [a1] at this
        by_cases a2 : got = 0
        · have CC : Hid (cnt t pk got K 0 = some (t.p0, t.o0)) := by show _ = _; unfold cnt; rw [if_pos (by simp [a1]), if_pos a2]; rfl
          have a2' : (got == 0) = true := beq_iff_eq.2 a2
          clear a1 a2
          go_wp2_with fail
          go_region
          go_wp2_with fail
          go_quiet (fail)
          go_wp2_with fail
          refine (HA.out _).mono ?_
          rintro e w2 ⟨rfl, hw2⟩
          subst hw2
          go_wp2_with fail
          have IQ : Hid (∀ o n, InvT (w.heap.size + 3) (w.heap.size + 2) W0 (upTo t ps got K L 0) ((wr.alloc o).drewN n)) := fun o n => HI.out.alloc_draws o n
          refine (open_any pk.P pk.lo pk.o pk.r pk.b (t.p0) (t.o0) L (by unfold sm; omega) (by unfold sm; omega) (by unfold sm; omega) (by unfold sm; omega) _).mono ?_
          rintro e w3 ⟨rfl, hb3⟩
          have I3 : Hid (InvT (w.heap.size + 3) (w.heap.size + 2) W0 (upTo t ps got K L 0) w3) := (IQ.out _ _).below hb3
          clear hb3 IQ HI
          cases ho : openB pk.P pk.lo pk.b (t.p0) (t.o0) L with
          | false =>
            have EQ : Hid (upTo t ps got K L (0 + 1) = upTo t ps got K L 0) := by
              show _ = _; rw [OC.out]; simp only [outc, CC.out, ho, Bool.false_eq_true, if_false, Ty.step]
            clear ho
            go_wp2_with fail
            go_roundg (3 - (0 + 1))
            case measure => omega
            case rel => exact ⟨0 + 1, by go_num, by omega, Nat.le_refl _, by show InvT _ _ _ _ _; rw [EQ.out]; exact I3.out⟩
          | true =>
            have EQ : Hid (upTo t ps got K L (0 + 1) = (upTo t ps got K L 0).add 0 (t.p0, t.o0)) := by
              show _ = _; rw [OC.out]; simp only [outc, CC.out, ho, if_true, Ty.step]
            clear ho
            have n0 : w3.cell? ⟨w.heap.size + 2, 0, none⟩ = some (.int .u8 (upTo t ps got K L 0).ops) := I3.out.own 0 _ rfl
            have n1 : w3.cell? ⟨w.heap.size + 2, 1, none⟩ = some (.int .i64 (upTo t ps got K L 0).p0) := I3.out.own 1 _ rfl
            have n2 : w3.cell? ⟨w.heap.size + 2, 4, none⟩ = some (.int .i64 (upTo t ps got K L 0).o0) := I3.out.own 4 _ rfl
            have m0 : w3.frozen? ⟨w.heap.size + 2, 0, none⟩ = false := I3.out.soft 0
            have m1 : w3.frozen? ⟨w.heap.size + 2, 1, none⟩ = false := I3.out.soft 1
            have m2 : w3.frozen? ⟨w.heap.size + 2, 4, none⟩ = false := I3.out.soft 4
            generalize hs : upTo t ps got K L 0 = s at *
            have HSS : Hid (upTo t ps got K L 0 = s) := hs
            clear hs
            go_wp2_with fail
            go_region
            go_wp2_with fail
            go_roundg (3 - (0 + 1))
            case measure => omega
            case rel => exact ⟨0 + 1, by go_num, by omega, Nat.le_refl _, by show InvT _ _ _ _ _; rw [EQ.out]; exact I3.out.set0 (t.p0) (t.o0)⟩
        · have a2' : (got == 0) = false := beq_eq_false_iff_ne.2 a2
          cases a3 : hasB got pk.o with
          | true =>
            have HO : Hid (∀ W, Calls Yba.prog 8 #[.int .u8 got, .int .i64 pk.o] W fun e w' => e = .returned (.bool true) ∧ w' = W) := fun W => by have := has_any got pk.o ko0 ko3 W; rwa [a3] at this
            have CC : Hid (cnt t pk got K 0 = some (t.p0 + K, t.o0 + K)) := by show _ = _; unfold cnt; rw [if_pos (by simp [a1]), if_neg a2, if_pos a3]; rfl
            clear a1 a2 a3
            go_wp2_with fail
            go_region
            go_wp2_with fail
            go_quiet (fail)
            go_wp2_with fail
            refine (HA.out _).mono ?_
            rintro e w2 ⟨rfl, hw2⟩
            subst hw2
            go_wp2_with fail
            refine (HO.out _).mono ?_
            rintro e w2 ⟨rfl, hw2⟩
            subst hw2
            go_wp2_with fail
            have IQ : Hid (∀ o n, InvT (w.heap.size + 3) (w.heap.size + 2) W0 (upTo t ps got K L 0) ((wr.alloc o).drewN n)) := fun o n => HI.out.alloc_draws o n
            refine (open_any pk.P pk.lo pk.o pk.r pk.b (t.p0 + K) (t.o0 + K) L (by unfold sm; omega) (by unfold sm; omega) (by unfold sm; omega) (by unfold sm; omega) _).mono ?_
            rintro e w3 ⟨rfl, hb3⟩
            have I3 : Hid (InvT (w.heap.size + 3) (w.heap.size + 2) W0 (upTo t ps got K L 0) w3) := (IQ.out _ _).below hb3
            clear hb3 IQ HI
            cases ho : openB pk.P pk.lo pk.b (t.p0 + K) (t.o0 + K) L with
            | false =>
              have EQ : Hid (upTo t ps got K L (0 + 1) = upTo t ps got K L 0) := by
                show _ = _; rw [OC.out]; simp only [outc, CC.out, ho, Bool.false_eq_true, if_false, Ty.step]
              clear ho
              go_wp2_with fail
              go_roundg (3 - (0 + 1))
              case measure => omega
              case rel => exact ⟨0 + 1, by go_num, by omega, Nat.le_refl _, by show InvT _ _ _ _ _; rw [EQ.out]; exact I3.out⟩
            | true =>
              have EQ : Hid (upTo t ps got K L (0 + 1) = (upTo t ps got K L 0).add 0 (t.p0 + K, t.o0 + K)) := by
                show _ = _; rw [OC.out]; simp only [outc, CC.out, ho, if_true, Ty.step]
              clear ho
              have n0 : w3.cell? ⟨w.heap.size + 2, 0, none⟩ = some (.int .u8 (upTo t ps got K L 0).ops) := I3.out.own 0 _ rfl
              have n1 : w3.cell? ⟨w.heap.size + 2, 1, none⟩ = some (.int .i64 (upTo t ps got K L 0).p0) := I3.out.own 1 _ rfl
              have n2 : w3.cell? ⟨w.heap.size + 2, 4, none⟩ = some (.int .i64 (upTo t ps got K L 0).o0) := I3.out.own 4 _ rfl
              have m0 : w3.frozen? ⟨w.heap.size + 2, 0, none⟩ = false := I3.out.soft 0
              have m1 : w3.frozen? ⟨w.heap.size + 2, 1, none⟩ = false := I3.out.soft 1
              have m2 : w3.frozen? ⟨w.heap.size + 2, 4, none⟩ = false := I3.out.soft 4
              generalize hs : upTo t ps got K L 0 = s at *
              have HSS : Hid (upTo t ps got K L 0 = s) := hs
              clear hs
              go_wp2_with fail
              go_region
              go_wp2_with fail
              go_roundg (3 - (0 + 1))
              case measure => omega
              case rel => exact ⟨0 + 1, by go_num, by omega, Nat.le_refl _, by show InvT _ _ _ _ _; rw [EQ.out]; exact I3.out.set0 (t.p0 + K) (t.o0 + K)⟩
          | false =>
            have HO : Hid (∀ W, Calls Yba.prog 8 #[.int .u8 got, .int .i64 pk.o] W fun e w' => e = .returned (.bool false) ∧ w' = W) := fun W => by have := has_any got pk.o ko0 ko3 W; rwa [a3] at this
            cases a4 : hasB got pk.r with
            | true =>
              have HR : Hid (∀ W, Calls Yba.prog 8 #[.int .u8 got, .int .i64 pk.r] W fun e w' => e = .returned (.bool true) ∧ w' = W) := fun W => by have := has_any got pk.r kr0 kr3 W; rwa [a4] at this
              have CC : Hid (cnt t pk got K 0 = some (t.p0 + K, t.o0)) := by show _ = _; unfold cnt; rw [if_pos (by simp [a1]), if_neg a2, if_neg (by simp [a3]), if_pos a4]; rfl
              clear a1 a2 a3 a4
              go_wp2_with fail
              go_region
              go_wp2_with fail
              go_quiet (fail)
              go_wp2_with fail
              refine (HA.out _).mono ?_
              rintro e w2 ⟨rfl, hw2⟩
              subst hw2
              go_wp2_with fail
              refine (HO.out _).mono ?_
              rintro e w2 ⟨rfl, hw2⟩
              subst hw2
              go_wp2_with fail
              refine (HR.out _).mono ?_
              rintro e w2 ⟨rfl, hw2⟩
              subst hw2
              go_wp2_with fail
              have IQ : Hid (∀ o n, InvT (w.heap.size + 3) (w.heap.size + 2) W0 (upTo t ps got K L 0) ((wr.alloc o).drewN n)) := fun o n => HI.out.alloc_draws o n
              refine (open_any pk.P pk.lo pk.o pk.r pk.b (t.p0 + K) (t.o0) L (by unfold sm; omega) (by unfold sm; omega) (by unfold sm; omega) (by unfold sm; omega) _).mono ?_
              rintro e w3 ⟨rfl, hb3⟩
              have I3 : Hid (InvT (w.heap.size + 3) (w.heap.size + 2) W0 (upTo t ps got K L 0) w3) := (IQ.out _ _).below hb3
              clear hb3 IQ HI
              cases ho : openB pk.P pk.lo pk.b (t.p0 + K) (t.o0) L with
              | false =>
                have EQ : Hid (upTo t ps got K L (0 + 1) = upTo t ps got K L 0) := by
                  show _ = _; rw [OC.out]; simp only [outc, CC.out, ho, Bool.false_eq_true, if_false, Ty.step]
                clear ho
                go_wp2_with fail
                go_roundg (3 - (0 + 1))
                case measure => omega
                case rel => exact ⟨0 + 1, by go_num, by omega, Nat.le_refl _, by show InvT _ _ _ _ _; rw [EQ.out]; exact I3.out⟩
              | true =>
                have EQ : Hid (upTo t ps got K L (0 + 1) = (upTo t ps got K L 0).add 0 (t.p0 + K, t.o0)) := by
                  show _ = _; rw [OC.out]; simp only [outc, CC.out, ho, if_true, Ty.step]
                clear ho
                have n0 : w3.cell? ⟨w.heap.size + 2, 0, none⟩ = some (.int .u8 (upTo t ps got K L 0).ops) := I3.out.own 0 _ rfl
                have n1 : w3.cell? ⟨w.heap.size + 2, 1, none⟩ = some (.int .i64 (upTo t ps got K L 0).p0) := I3.out.own 1 _ rfl
                have n2 : w3.cell? ⟨w.heap.size + 2, 4, none⟩ = some (.int .i64 (upTo t ps got K L 0).o0) := I3.out.own 4 _ rfl
                have m0 : w3.frozen? ⟨w.heap.size + 2, 0, none⟩ = false := I3.out.soft 0
                have m1 : w3.frozen? ⟨w.heap.size + 2, 1, none⟩ = false := I3.out.soft 1
                have m2 : w3.frozen? ⟨w.heap.size + 2, 4, none⟩ = false := I3.out.soft 4
                generalize hs : upTo t ps got K L 0 = s at *
                have HSS : Hid (upTo t ps got K L 0 = s) := hs
                clear hs
                go_wp2_with fail
                go_region
                go_wp2_with fail
                go_roundg (3 - (0 + 1))
                case measure => omega
                case rel => exact ⟨0 + 1, by go_num, by omega, Nat.le_refl _, by show InvT _ _ _ _ _; rw [EQ.out]; exact I3.out.set0 (t.p0 + K) (t.o0)⟩
            | false =>
              have HR : Hid (∀ W, Calls Yba.prog 8 #[.int .u8 got, .int .i64 pk.r] W fun e w' => e = .returned (.bool false) ∧ w' = W) := fun W => by have := has_any got pk.r kr0 kr3 W; rwa [a4] at this
              have EQ : Hid (upTo t ps got K L (0 + 1) = upTo t ps got K L 0) := by
                show _ = _; rw [OC.out]
                have hc : cnt t pk got K 0 = none := by unfold cnt; rw [if_pos (by simp [a1]), if_neg a2, if_neg (by simp [a3]), if_neg (by simp [a4])]
                simp only [outc, hc, Ty.step]
              clear a1 a2 a3 a4
              go_wp2_with fail
              go_region
              go_wp2_with fail
              go_quiet (fail)
              go_wp2_with fail
              refine (HA.out _).mono ?_
              rintro e w2 ⟨rfl, hw2⟩
              subst hw2
              go_wp2_with fail
              refine (HO.out _).mono ?_
              rintro e w2 ⟨rfl, hw2⟩
              subst hw2
              go_wp2_with fail
              refine (HR.out _).mono ?_
              rintro e w2 ⟨rfl, hw2⟩
              subst hw2
              go_wp2_with fail
              go_roundg (3 - (0 + 1))
              case measure => omega
              case rel => exact ⟨0 + 1, by go_num, by omega, Nat.le_refl _, by show InvT _ _ _ _ _; rw [EQ.out]; exact HI.out.alloc_draws _ _⟩
    · have tc := fun j v hj => take_t HI.out HST.out.2.1 j v hj
      have t0 : wr.cell? ⟨w.heap.size, 0, none⟩ = some (.int .u8 t.ops) := tc 0 _ rfl
      have t1 : wr.cell? ⟨w.heap.size, 2, none⟩ = some (.int .i64 t.p1) := tc 2 _ rfl
      have t2 : wr.cell? ⟨w.heap.size, 5, none⟩ = some (.int .i64 t.o1) := tc 5 _ rfl
      have pc := fun j => take_p HI.out HPK.out hpb j
      have pq := HP.out 1 (by omega)
      rw [← pc (1 * 5), ← pc (1 * 5 + 1), ← pc (1 * 5 + 2), ← pc (1 * 5 + 3), ← pc (1 * 5 + 4)] at pq
      have pq0 : wr.cell? ⟨pb, 5, none⟩ = some (.int .i64 (ps 1).P) := pq.1
      have pq1 : wr.cell? ⟨pb, 6, none⟩ = some (.int .i64 (ps 1).lo) := pq.2.1
      have pq2 : wr.cell? ⟨pb, 7, none⟩ = some (.int .i64 (ps 1).o) := pq.2.2.1
      have pq3 : wr.cell? ⟨pb, 8, none⟩ = some (.int .i64 (ps 1).r) := pq.2.2.2.1
      have pq4 : wr.cell? ⟨pb, 9, none⟩ = some (.bool (ps 1).b) := pq.2.2.2.2
      obtain ⟨⟨_, _⟩, ⟨_, _⟩, ⟨ko0, ko3⟩, ⟨kr0, kr3⟩⟩ := HPS.out 1 (by omega)
      obtain ⟨_, ⟨_, _⟩, ⟨_, _⟩, ⟨_, _⟩, ⟨_, _⟩, ⟨_, _⟩, ⟨_, _⟩⟩ := HT.out
      have OC : Hid (upTo t ps got K L (1 + 1) = (upTo t ps got K L 1).step 1 (outc t (ps 1) got K L 1)) := rfl
      have sz := HI.out.2.1
      have lp : pb < wr.heap.size := by omega
      have lt : w.heap.size < wr.heap.size := by omega
      have ln : w.heap.size + 2 < wr.heap.size := by omega
      clear tc pc pq
      generalize ps 1 = pk at *
      cases a1 : hasB t.ops 1 with
      | false =>
        have HA : Hid (∀ W, Calls Yba.prog 8 #[.int .u8 t.ops, .int .i64 1] W fun e w' => e = .returned (.bool false) ∧ w' = W) := fun W => by have := has_any t.ops 1 (by omega) (by omega) W; rwa [a1] at this
        have EQ : Hid (upTo t ps got K L (1 + 1) = upTo t ps got K L 1) := by
          show _ = _; rw [OC.out]
          have hc : cnt t pk got K 1 = none := by unfold cnt; rw [if_neg (by simp [a1])]
          simp only [outc, hc, Ty.step]
        clear a1
        go_wp2_with fail
        go_region
        go_wp2_with fail
        go_quiet (fail)
        go_wp2_with fail
        refine (HA.out _).mono ?_
        rintro e w2 ⟨rfl, hw2⟩
        subst hw2
        go_wp2_with fail
        go_roundg (3 - (1 + 1))
        case measure => omega
        case rel => exact ⟨1 + 1, by go_num, by omega, Nat.le_refl _, by show InvT _ _ _ _ _; rw [EQ.out]; exact HI.out.alloc_draws _ _⟩
      | true =>
        have HA : Hid (∀ W, Calls Yba.prog 8 #[.int .u8 t.ops, .int .i64 1] W fun e w' => e = .returned (.bool true) ∧ w' = W) := fun W => by have := has_any t.ops 1 (by omega) (by omega) W; rwa [a1] at this
        by_cases a2 : got = 0
        · have CC : Hid (cnt t pk got K 1 = some (t.p1, t.o1)) := by show _ = _; unfold cnt; rw [if_pos (by simp [a1]), if_pos a2]; rfl
          have a2' : (got == 0) = true := beq_iff_eq.2 a2
          clear a1 a2
          go_wp2_with fail
          go_region
          go_wp2_with fail
          go_quiet (fail)
          go_wp2_with fail
          refine (HA.out _).mono ?_
          rintro e w2 ⟨rfl, hw2⟩
          subst hw2
          go_wp2_with fail
          have IQ : Hid (∀ o n, InvT (w.heap.size + 3) (w.heap.size + 2) W0 (upTo t ps got K L 1) ((wr.alloc o).drewN n)) := fun o n => HI.out.alloc_draws o n
          refine (open_any pk.P pk.lo pk.o pk.r pk.b (t.p1) (t.o1) L (by unfold sm; omega) (by unfold sm; omega) (by unfold sm; omega) (by unfold sm; omega) _).mono ?_
          rintro e w3 ⟨rfl, hb3⟩
          have I3 : Hid (InvT (w.heap.size + 3) (w.heap.size + 2) W0 (upTo t ps got K L 1) w3) := (IQ.out _ _).below hb3
          clear hb3 IQ HI
          cases ho : openB pk.P pk.lo pk.b (t.p1) (t.o1) L with
          | false =>
            have EQ : Hid (upTo t ps got K L (1 + 1) = upTo t ps got K L 1) := by
              show _ = _; rw [OC.out]; simp only [outc, CC.out, ho, Bool.false_eq_true, if_false, Ty.step]
            clear ho
            go_wp2_with fail
            go_roundg (3 - (1 + 1))
            case measure => omega
            case rel => exact ⟨1 + 1, by go_num, by omega, Nat.le_refl _, by show InvT _ _ _ _ _; rw [EQ.out]; exact I3.out⟩
          | true =>
            have EQ : Hid (upTo t ps got K L (1 + 1) = (upTo t ps got K L 1).add 1 (t.p1, t.o1)) := by
              show _ = _; rw [OC.out]; simp only [outc, CC.out, ho, if_true, Ty.step]
            clear ho
            have n0 : w3.cell? ⟨w.heap.size + 2, 0, none⟩ = some (.int .u8 (upTo t ps got K L 1).ops) := I3.out.own 0 _ rfl
            have n1 : w3.cell? ⟨w.heap.size + 2, 2, none⟩ = some (.int .i64 (upTo t ps got K L 1).p1) := I3.out.own 2 _ rfl
            have n2 : w3.cell? ⟨w.heap.size + 2, 5, none⟩ = some (.int .i64 (upTo t ps got K L 1).o1) := I3.out.own 5 _ rfl
            have m0 : w3.frozen? ⟨w.heap.size + 2, 0, none⟩ = false := I3.out.soft 0
            have m1 : w3.frozen? ⟨w.heap.size + 2, 2, none⟩ = false := I3.out.soft 2
            have m2 : w3.frozen? ⟨w.heap.size + 2, 5, none⟩ = false := I3.out.soft 5
            generalize hs : upTo t ps got K L 1 = s at *
            have HSS : Hid (upTo t ps got K L 1 = s) := hs
            clear hs
            go_wp2_with fail
            go_region
            go_wp2_with fail
            go_roundg (3 - (1 + 1))
            case measure => omega
            case rel => exact ⟨1 + 1, by go_num, by omega, Nat.le_refl _, by show InvT _ _ _ _ _; rw [EQ.out]; exact I3.out.set1 (t.p1) (t.o1)⟩
        · have a2' : (got == 0) = false := beq_eq_false_iff_ne.2 a2
          cases a3 : hasB got pk.o with
          | true =>
            have HO : Hid (∀ W, Calls Yba.prog 8 #[.int .u8 got, .int .i64 pk.o] W fun e w' => e = .returned (.bool true) ∧ w' = W) := fun W => by have := has_any got pk.o ko0 ko3 W; rwa [a3] at this
            have CC : Hid (cnt t pk got K 1 = some (t.p1 + K, t.o1 + K)) := by show _ = _; unfold cnt; rw [if_pos (by simp [a1]), if_neg a2, if_pos a3]; rfl
            clear a1 a2 a3
            go_wp2_with fail
            go_region
            go_wp2_with fail
            go_quiet (fail)
            go_wp2_with fail
            refine (HA.out _).mono ?_
            rintro e w2 ⟨rfl, hw2⟩
            subst hw2
            go_wp2_with fail
            refine (HO.out _).mono ?_
            rintro e w2 ⟨rfl, hw2⟩
            subst hw2
            go_wp2_with fail
            have IQ : Hid (∀ o n, InvT (w.heap.size + 3) (w.heap.size + 2) W0 (upTo t ps got K L 1) ((wr.alloc o).drewN n)) := fun o n => HI.out.alloc_draws o n
            refine (open_any pk.P pk.lo pk.o pk.r pk.b (t.p1 + K) (t.o1 + K) L (by unfold sm; omega) (by unfold sm; omega) (by unfold sm; omega) (by unfold sm; omega) _).mono ?_
            rintro e w3 ⟨rfl, hb3⟩
            have I3 : Hid (InvT (w.heap.size + 3) (w.heap.size + 2) W0 (upTo t ps got K L 1) w3) := (IQ.out _ _).below hb3
            clear hb3 IQ HI
            cases ho : openB pk.P pk.lo pk.b (t.p1 + K) (t.o1 + K) L with
            | false =>
              have EQ : Hid (upTo t ps got K L (1 + 1) = upTo t ps got K L 1) := by
                show _ = _; rw [OC.out]; simp only [outc, CC.out, ho, Bool.false_eq_true, if_false, Ty.step]
              clear ho
              go_wp2_with fail
              go_roundg (3 - (1 + 1))
              case measure => omega
              case rel => exact ⟨1 + 1, by go_num, by omega, Nat.le_refl _, by show InvT _ _ _ _ _; rw [EQ.out]; exact I3.out⟩
            | true =>
              have EQ : Hid (upTo t ps got K L (1 + 1) = (upTo t ps got K L 1).add 1 (t.p1 + K, t.o1 + K)) := by
                show _ = _; rw [OC.out]; simp only [outc, CC.out, ho, if_true, Ty.step]
              clear ho
              have n0 : w3.cell? ⟨w.heap.size + 2, 0, none⟩ = some (.int .u8 (upTo t ps got K L 1).ops) := I3.out.own 0 _ rfl
              have n1 : w3.cell? ⟨w.heap.size + 2, 2, none⟩ = some (.int .i64 (upTo t ps got K L 1).p1) := I3.out.own 2 _ rfl
              have n2 : w3.cell? ⟨w.heap.size + 2, 5, none⟩ = some (.int .i64 (upTo t ps got K L 1).o1) := I3.out.own 5 _ rfl
              have m0 : w3.frozen? ⟨w.heap.size + 2, 0, none⟩ = false := I3.out.soft 0
              have m1 : w3.frozen? ⟨w.heap.size + 2, 2, none⟩ = false := I3.out.soft 2
              have m2 : w3.frozen? ⟨w.heap.size + 2, 5, none⟩ = false := I3.out.soft 5
              generalize hs : upTo t ps got K L 1 = s at *
              have HSS : Hid (upTo t ps got K L 1 = s) := hs
              clear hs
              go_wp2_with fail
              go_region
              go_wp2_with fail
              go_roundg (3 - (1 + 1))
              case measure => omega
              case rel => exact ⟨1 + 1, by go_num, by omega, Nat.le_refl _, by show InvT _ _ _ _ _; rw [EQ.out]; exact I3.out.set1 (t.p1 + K) (t.o1 + K)⟩
          | false =>
            have HO : Hid (∀ W, Calls Yba.prog 8 #[.int .u8 got, .int .i64 pk.o] W fun e w' => e = .returned (.bool false) ∧ w' = W) := fun W => by have := has_any got pk.o ko0 ko3 W; rwa [a3] at this
            cases a4 : hasB got pk.r with
            | true =>
              have HR : Hid (∀ W, Calls Yba.prog 8 #[.int .u8 got, .int .i64 pk.r] W fun e w' => e = .returned (.bool true) ∧ w' = W) := fun W => by have := has_any got pk.r kr0 kr3 W; rwa [a4] at this
              have CC : Hid (cnt t pk got K 1 = some (t.p1 + K, t.o1)) := by show _ = _; unfold cnt; rw [if_pos (by simp [a1]), if_neg a2, if_neg (by simp [a3]), if_pos a4]; rfl
              clear a1 a2 a3 a4
              go_wp2_with fail
              go_region
              go_wp2_with fail
              go_quiet (fail)
              go_wp2_with fail
              refine (HA.out _).mono ?_
              rintro e w2 ⟨rfl, hw2⟩
              subst hw2
              go_wp2_with fail
              refine (HO.out _).mono ?_
              rintro e w2 ⟨rfl, hw2⟩
              subst hw2
              go_wp2_with fail
              refine (HR.out _).mono ?_
              rintro e w2 ⟨rfl, hw2⟩
              subst hw2
              go_wp2_with fail
              have IQ : Hid (∀ o n, InvT (w.heap.size + 3) (w.heap.size + 2) W0 (upTo t ps got K L 1) ((wr.alloc o).drewN n)) := fun o n => HI.out.alloc_draws o n
              refine (open_any pk.P pk.lo pk.o pk.r pk.b (t.p1 + K) (t.o1) L (by unfold sm; omega) (by unfold sm; omega) (by unfold sm; omega) (by unfold sm; omega) _).mono ?_
              rintro e w3 ⟨rfl, hb3⟩
              have I3 : Hid (InvT (w.heap.size + 3) (w.heap.size + 2) W0 (upTo t ps got K L 1) w3) := (IQ.out _ _).below hb3
              clear hb3 IQ HI
              cases ho : openB pk.P pk.lo pk.b (t.p1 + K) (t.o1) L with
              | false =>
                have EQ : Hid (upTo t ps got K L (1 + 1) = upTo t ps got K L 1) := by
                  show _ = _; rw [OC.out]; simp only [outc, CC.out, ho, Bool.false_eq_true, if_false, Ty.step]
                clear ho
                go_wp2_with fail
                go_roundg (3 - (1 + 1))
                case measure => omega
                case rel => exact ⟨1 + 1, by go_num, by omega, Nat.le_refl _, by show InvT _ _ _ _ _; rw [EQ.out]; exact I3.out⟩
              | true =>
                have EQ : Hid (upTo t ps got K L (1 + 1) = (upTo t ps got K L 1).add 1 (t.p1 + K, t.o1)) := by
                  show _ = _; rw [OC.out]; simp only [outc, CC.out, ho, if_true, Ty.step]
                clear ho
                have n0 : w3.cell? ⟨w.heap.size + 2, 0, none⟩ = some (.int .u8 (upTo t ps got K L 1).ops) := I3.out.own 0 _ rfl
                have n1 : w3.cell? ⟨w.heap.size + 2, 2, none⟩ = some (.int .i64 (upTo t ps got K L 1).p1) := I3.out.own 2 _ rfl
                have n2 : w3.cell? ⟨w.heap.size + 2, 5, none⟩ = some (.int .i64 (upTo t ps got K L 1).o1) := I3.out.own 5 _ rfl
                have m0 : w3.frozen? ⟨w.heap.size + 2, 0, none⟩ = false := I3.out.soft 0
                have m1 : w3.frozen? ⟨w.heap.size + 2, 2, none⟩ = false := I3.out.soft 2
                have m2 : w3.frozen? ⟨w.heap.size + 2, 5, none⟩ = false := I3.out.soft 5
                generalize hs : upTo t ps got K L 1 = s at *
                have HSS : Hid (upTo t ps got K L 1 = s) := hs
                clear hs
                go_wp2_with fail
                go_region
                go_wp2_with fail
                go_roundg (3 - (1 + 1))
                case measure => omega
                case rel => exact ⟨1 + 1, by go_num, by omega, Nat.le_refl _, by show InvT _ _ _ _ _; rw [EQ.out]; exact I3.out.set1 (t.p1 + K) (t.o1)⟩
            | false =>
              have HR : Hid (∀ W, Calls Yba.prog 8 #[.int .u8 got, .int .i64 pk.r] W fun e w' => e = .returned (.bool false) ∧ w' = W) := fun W => by have := has_any got pk.r kr0 kr3 W; rwa [a4] at this
              have EQ : Hid (upTo t ps got K L (1 + 1) = upTo t ps got K L 1) := by
                show _ = _; rw [OC.out]
                have hc : cnt t pk got K 1 = none := by unfold cnt; rw [if_pos (by simp [a1]), if_neg a2, if_neg (by simp [a3]), if_neg (by simp [a4])]
                simp only [outc, hc, Ty.step]
              clear a1 a2 a3 a4
              go_wp2_with fail
              go_region
              go_wp2_with fail
              go_quiet (fail)
              go_wp2_with fail
              refine (HA.out _).mono ?_
              rintro e w2 ⟨rfl, hw2⟩
              subst hw2
              go_wp2_with fail
              refine (HO.out _).mono ?_
              rintro e w2 ⟨rfl, hw2⟩
              subst hw2
              go_wp2_with fail
              refine (HR.out _).mono ?_
              rintro e w2 ⟨rfl, hw2⟩
              subst hw2
              go_wp2_with fail
              go_roundg (3 - (1 + 1))
              case measure => omega
              case rel => exact ⟨1 + 1, by go_num, by omega, Nat.le_refl _, by show InvT _ _ _ _ _; rw [EQ.out]; exact HI.out.alloc_draws _ _⟩
    · have tc := fun j v hj => take_t HI.out HST.out.2.1 j v hj
      have t0 : wr.cell? ⟨w.heap.size, 0, none⟩ = some (.int .u8 t.ops) := tc 0 _ rfl
      have t1 : wr.cell? ⟨w.heap.size, 3, none⟩ = some (.int .i64 t.p2) := tc 3 _ rfl
      have t2 : wr.cell? ⟨w.heap.size, 6, none⟩ = some (.int .i64 t.o2) := tc 6 _ rfl
      have pc := fun j => take_p HI.out HPK.out hpb j
      have pq := HP.out 2 (by omega)
      rw [← pc (2 * 5), ← pc (2 * 5 + 1), ← pc (2 * 5 + 2), ← pc (2 * 5 + 3), ← pc (2 * 5 + 4)] at pq
      have pq0 : wr.cell? ⟨pb, 10, none⟩ = some (.int .i64 (ps 2).P) := pq.1
      have pq1 : wr.cell? ⟨pb, 11, none⟩ = some (.int .i64 (ps 2).lo) := pq.2.1
      have pq2 : wr.cell? ⟨pb, 12, none⟩ = some (.int .i64 (ps 2).o) := pq.2.2.1
      have pq3 : wr.cell? ⟨pb, 13, none⟩ = some (.int .i64 (ps 2).r) := pq.2.2.2.1
      have pq4 : wr.cell? ⟨pb, 14, none⟩ = some (.bool (ps 2).b) := pq.2.2.2.2
      obtain ⟨⟨_, _⟩, ⟨_, _⟩, ⟨ko0, ko3⟩, ⟨kr0, kr3⟩⟩ := HPS.out 2 (by omega)
      obtain ⟨_, ⟨_, _⟩, ⟨_, _⟩, ⟨_, _⟩, ⟨_, _⟩, ⟨_, _⟩, ⟨_, _⟩⟩ := HT.out
      have OC : Hid (upTo t ps got K L (2 + 1) = (upTo t ps got K L 2).step 2 (outc t (ps 2) got K L 2)) := rfl
      have sz := HI.out.2.1
      have lp : pb < wr.heap.size := by omega
      have lt : w.heap.size < wr.heap.size := by omega
      have ln : w.heap.size + 2 < wr.heap.size := by omega
      clear tc pc pq
      generalize ps 2 = pk at *
      cases a1 : hasB t.ops 2 with
      | false =>
        have HA : Hid (∀ W, Calls Yba.prog 8 #[.int .u8 t.ops, .int .i64 2] W fun e w' => e = .returned (.bool false) ∧ w' = W) := fun W => by have := has_any t.ops 2 (by omega) (by omega) W; rwa [a1] at this
        have EQ : Hid (upTo t ps got K L (2 + 1) = upTo t ps got K L 2) := by
          show _ = _; rw [OC.out]
          have hc : cnt t pk got K 2 = none := by unfold cnt; rw [if_neg (by simp [a1])]
          simp only [outc, hc, Ty.step]
        clear a1
        go_wp2_with fail
        go_region
        go_wp2_with fail
        go_quiet (fail)
        go_wp2_with fail
        refine (HA.out _).mono ?_
        rintro e w2 ⟨rfl, hw2⟩
        subst hw2
        go_wp2_with fail
        go_roundg (3 - (2 + 1))
        case measure => omega
        case rel => exact ⟨2 + 1, by go_num, by omega, Nat.le_refl _, by show InvT _ _ _ _ _; rw [EQ.out]; exact HI.out.alloc_draws _ _⟩
      | true =>
        have HA : Hid (∀ W, Calls Yba.prog 8 #[.int .u8 t.ops, .int .i64 2] W fun e w' => e = .returned (.bool true) ∧ w' = W) := fun W => by have := has_any t.ops 2 (by omega) (by omega) W; rwa [a1] at this
        by_cases a2 : got = 0
        · have CC : Hid (cnt t pk got K 2 = some (t.p2, t.o2)) := by show _ = _; unfold cnt; rw [if_pos (by simp [a1]), if_pos a2]; rfl
          have a2' : (got == 0) = true := beq_iff_eq.2 a2
          clear a1 a2
          go_wp2_with fail
          go_region
          go_wp2_with fail
          go_quiet (fail)
          go_wp2_with fail
          refine (HA.out _).mono ?_
          rintro e w2 ⟨rfl, hw2⟩
          subst hw2
          go_wp2_with fail
          have IQ : Hid (∀ o n, InvT (w.heap.size + 3) (w.heap.size + 2) W0 (upTo t ps got K L 2) ((wr.alloc o).drewN n)) := fun o n => HI.out.alloc_draws o n
          refine (open_any pk.P pk.lo pk.o pk.r pk.b (t.p2) (t.o2) L (by unfold sm; omega) (by unfold sm; omega) (by unfold sm; omega) (by unfold sm; omega) _).mono ?_
          rintro e w3 ⟨rfl, hb3⟩
          have I3 : Hid (InvT (w.heap.size + 3) (w.heap.size + 2) W0 (upTo t ps got K L 2) w3) := (IQ.out _ _).below hb3
          clear hb3 IQ HI
          cases ho : openB pk.P pk.lo pk.b (t.p2) (t.o2) L with
          | false =>
            have EQ : Hid (upTo t ps got K L (2 + 1) = upTo t ps got K L 2) := by
              show _ = _; rw [OC.out]; simp only [outc, CC.out, ho, Bool.false_eq_true, if_false, Ty.step]
            clear ho
            go_wp2_with fail
            go_roundg (3 - (2 + 1))
            case measure => omega
            case rel => exact ⟨2 + 1, by go_num, by omega, Nat.le_refl _, by show InvT _ _ _ _ _; rw [EQ.out]; exact I3.out⟩
          | true =>
            have EQ : Hid (upTo t ps got K L (2 + 1) = (upTo t ps got K L 2).add 2 (t.p2, t.o2)) := by
              show _ = _; rw [OC.out]; simp only [outc, CC.out, ho, if_true, Ty.step]
            clear ho
            have n0 : w3.cell? ⟨w.heap.size + 2, 0, none⟩ = some (.int .u8 (upTo t ps got K L 2).ops) := I3.out.own 0 _ rfl
            have n1 : w3.cell? ⟨w.heap.size + 2, 3, none⟩ = some (.int .i64 (upTo t ps got K L 2).p2) := I3.out.own 3 _ rfl
            have n2 : w3.cell? ⟨w.heap.size + 2, 6, none⟩ = some (.int .i64 (upTo t ps got K L 2).o2) := I3.out.own 6 _ rfl
            have m0 : w3.frozen? ⟨w.heap.size + 2, 0, none⟩ = false := I3.out.soft 0
            have m1 : w3.frozen? ⟨w.heap.size + 2, 3, none⟩ = false := I3.out.soft 3
            have m2 : w3.frozen? ⟨w.heap.size + 2, 6, none⟩ = false := I3.out.soft 6
            generalize hs : upTo t ps got K L 2 = s at *
            have HSS : Hid (upTo t ps got K L 2 = s) := hs
            clear hs
            go_wp2_with fail
            go_region
            go_wp2_with fail
            go_roundg (3 - (2 + 1))
            case measure => omega
            case rel => exact ⟨2 + 1, by go_num, by omega, Nat.le_refl _, by show InvT _ _ _ _ _; rw [EQ.out]; exact I3.out.set2 (t.p2) (t.o2)⟩
        · have a2' : (got == 0) = false := beq_eq_false_iff_ne.2 a2
          cases a3 : hasB got pk.o with
          | true =>
            have HO : Hid (∀ W, Calls Yba.prog 8 #[.int .u8 got, .int .i64 pk.o] W fun e w' => e = .returned (.bool true) ∧ w' = W) := fun W => by have := has_any got pk.o ko0 ko3 W; rwa [a3] at this
            have CC : Hid (cnt t pk got K 2 = some (t.p2 + K, t.o2 + K)) := by show _ = _; unfold cnt; rw [if_pos (by simp [a1]), if_neg a2, if_pos a3]; rfl
            clear a1 a2 a3
            go_wp2_with fail
            go_region
            go_wp2_with fail
            go_quiet (fail)
            go_wp2_with fail
            refine (HA.out _).mono ?_
            rintro e w2 ⟨rfl, hw2⟩
            subst hw2
            go_wp2_with fail
            refine (HO.out _).mono ?_
            rintro e w2 ⟨rfl, hw2⟩
            subst hw2
            go_wp2_with fail
            have IQ : Hid (∀ o n, InvT (w.heap.size + 3) (w.heap.size + 2) W0 (upTo t ps got K L 2) ((wr.alloc o).drewN n)) := fun o n => HI.out.alloc_draws o n
            refine (open_any pk.P pk.lo pk.o pk.r pk.b (t.p2 + K) (t.o2 + K) L (by unfold sm; omega) (by unfold sm; omega) (by unfold sm; omega) (by unfold sm; omega) _).mono ?_
            rintro e w3 ⟨rfl, hb3⟩
            have I3 : Hid (InvT (w.heap.size + 3) (w.heap.size + 2) W0 (upTo t ps got K L 2) w3) := (IQ.out _ _).below hb3
            clear hb3 IQ HI
            cases ho : openB pk.P pk.lo pk.b (t.p2 + K) (t.o2 + K) L with
            | false =>
              have EQ : Hid (upTo t ps got K L (2 + 1) = upTo t ps got K L 2) := by
                show _ = _; rw [OC.out]; simp only [outc, CC.out, ho, Bool.false_eq_true, if_false, Ty.step]
              clear ho
              go_wp2_with fail
              go_roundg (3 - (2 + 1))
              case measure => omega
              case rel => exact ⟨2 + 1, by go_num, by omega, Nat.le_refl _, by show InvT _ _ _ _ _; rw [EQ.out]; exact I3.out⟩
            | true =>
              have EQ : Hid (upTo t ps got K L (2 + 1) = (upTo t ps got K L 2).add 2 (t.p2 + K, t.o2 + K)) := by
                show _ = _; rw [OC.out]; simp only [outc, CC.out, ho, if_true, Ty.step]
              clear ho
              have n0 : w3.cell? ⟨w.heap.size + 2, 0, none⟩ = some (.int .u8 (upTo t ps got K L 2).ops) := I3.out.own 0 _ rfl
              have n1 : w3.cell? ⟨w.heap.size + 2, 3, none⟩ = some (.int .i64 (upTo t ps got K L 2).p2) := I3.out.own 3 _ rfl
              have n2 : w3.cell? ⟨w.heap.size + 2, 6, none⟩ = some (.int .i64 (upTo t ps got K L 2).o2) := I3.out.own 6 _ rfl
              have m0 : w3.frozen? ⟨w.heap.size + 2, 0, none⟩ = false := I3.out.soft 0
              have m1 : w3.frozen? ⟨w.heap.size + 2, 3, none⟩ = false := I3.out.soft 3
              have m2 : w3.frozen? ⟨w.heap.size + 2, 6, none⟩ = false := I3.out.soft 6
              generalize hs : upTo t ps got K L 2 = s at *
              have HSS : Hid (upTo t ps got K L 2 = s) := hs
              clear hs
              go_wp2_with fail
              go_region
              go_wp2_with fail
              go_roundg (3 - (2 + 1))
              case measure => omega
              case rel => exact ⟨2 + 1, by go_num, by omega, Nat.le_refl _, by show InvT _ _ _ _ _; rw [EQ.out]; exact I3.out.set2 (t.p2 + K) (t.o2 + K)⟩
          | false =>
            have HO : Hid (∀ W, Calls Yba.prog 8 #[.int .u8 got, .int .i64 pk.o] W fun e w' => e = .returned (.bool false) ∧ w' = W) := fun W => by have := has_any got pk.o ko0 ko3 W; rwa [a3] at this
            cases a4 : hasB got pk.r with
            | true =>
              have HR : Hid (∀ W, Calls Yba.prog 8 #[.int .u8 got, .int .i64 pk.r] W fun e w' => e = .returned (.bool true) ∧ w' = W) := fun W => by have := has_any got pk.r kr0 kr3 W; rwa [a4] at this
              have CC : Hid (cnt t pk got K 2 = some (t.p2 + K, t.o2)) := by show _ = _; unfold cnt; rw [if_pos (by simp [a1]), if_neg a2, if_neg (by simp [a3]), if_pos a4]; rfl
              clear a1 a2 a3 a4
              go_wp2_with fail
              go_region
              go_wp2_with fail
              go_quiet (fail)
              go_wp2_with fail
              refine (HA.out _).mono ?_
              rintro e w2 ⟨rfl, hw2⟩
              subst hw2
              go_wp2_with fail
              refine (HO.out _).mono ?_
              rintro e w2 ⟨rfl, hw2⟩
              subst hw2
              go_wp2_with fail
              refine (HR.out _).mono ?_
              rintro e w2 ⟨rfl, hw2⟩
              subst hw2
              go_wp2_with fail
              have IQ : Hid (∀ o n, InvT (w.heap.size + 3) (w.heap.size + 2) W0 (upTo t ps got K L 2) ((wr.alloc o).drewN n)) := fun o n => HI.out.alloc_draws o n
              refine (open_any pk.P pk.lo pk.o pk.r pk.b (t.p2 + K) (t.o2) L (by unfold sm; omega) (by unfold sm; omega) (by unfold sm; omega) (by unfold sm; omega) _).mono ?_
              rintro e w3 ⟨rfl, hb3⟩
              have I3 : Hid (InvT (w.heap.size + 3) (w.heap.size + 2) W0 (upTo t ps got K L 2) w3) := (IQ.out _ _).below hb3
              clear hb3 IQ HI
              cases ho : openB pk.P pk.lo pk.b (t.p2 + K) (t.o2) L with
              | false =>
                have EQ : Hid (upTo t ps got K L (2 + 1) = upTo t ps got K L 2) := by
                  show _ = _; rw [OC.out]; simp only [outc, CC.out, ho, Bool.false_eq_true, if_false, Ty.step]
                clear ho
                go_wp2_with fail
                go_roundg (3 - (2 + 1))
                case measure => omega
                case rel => exact ⟨2 + 1, by go_num, by omega, Nat.le_refl _, by show InvT _ _ _ _ _; rw [EQ.out]; exact I3.out⟩
              | true =>
                have EQ : Hid (upTo t ps got K L (2 + 1) = (upTo t ps got K L 2).add 2 (t.p2 + K, t.o2)) := by
                  show _ = _; rw [OC.out]; simp only [outc, CC.out, ho, if_true, Ty.step]
                clear ho
                have n0 : w3.cell? ⟨w.heap.size + 2, 0, none⟩ = some (.int .u8 (upTo t ps got K L 2).ops) := I3.out.own 0 _ rfl
                have n1 : w3.cell? ⟨w.heap.size + 2, 3, none⟩ = some (.int .i64 (upTo t ps got K L 2).p2) := I3.out.own 3 _ rfl
                have n2 : w3.cell? ⟨w.heap.size + 2, 6, none⟩ = some (.int .i64 (upTo t ps got K L 2).o2) := I3.out.own 6 _ rfl
                have m0 : w3.frozen? ⟨w.heap.size + 2, 0, none⟩ = false := I3.out.soft 0
                have m1 : w3.frozen? ⟨w.heap.size + 2, 3, none⟩ = false := I3.out.soft 3
                have m2 : w3.frozen? ⟨w.heap.size + 2, 6, none⟩ = false := I3.out.soft 6
                generalize hs : upTo t ps got K L 2 = s at *
                have HSS : Hid (upTo t ps got K L 2 = s) := hs
                clear hs
                go_wp2_with fail
                go_region
                go_wp2_with fail
                go_roundg (3 - (2 + 1))
                case measure => omega
                case rel => exact ⟨2 + 1, by go_num, by omega, Nat.le_refl _, by show InvT _ _ _ _ _; rw [EQ.out]; exact I3.out.set2 (t.p2 + K) (t.o2)⟩
            | false =>
              have HR : Hid (∀ W, Calls Yba.prog 8 #[.int .u8 got, .int .i64 pk.r] W fun e w' => e = .returned (.bool false) ∧ w' = W) := fun W => by have := has_any got pk.r kr0 kr3 W; rwa [a4] at this
              have EQ : Hid (upTo t ps got K L (2 + 1) = upTo t ps got K L 2) := by
                show _ = _; rw [OC.out]
                have hc : cnt t pk got K 2 = none := by unfold cnt; rw [if_pos (by simp [a1]), if_neg a2, if_neg (by simp [a3]), if_neg (by simp [a4])]
                simp only [outc, hc, Ty.step]
              clear a1 a2 a3 a4
              go_wp2_with fail
              go_region
              go_wp2_with fail
              go_quiet (fail)
              go_wp2_with fail
              refine (HA.out _).mono ?_
              rintro e w2 ⟨rfl, hw2⟩
              subst hw2
              go_wp2_with fail
              refine (HO.out _).mono ?_
              rintro e w2 ⟨rfl, hw2⟩
              subst hw2
              go_wp2_with fail
              refine (HR.out _).mono ?_
              rintro e w2 ⟨rfl, hw2⟩
              subst hw2
              go_wp2_with fail
              go_roundg (3 - (2 + 1))
              case measure => omega
              case rel => exact ⟨2 + 1, by go_num, by omega, Nat.le_refl _, by show InvT _ _ _ _ _; rw [EQ.out]; exact HI.out.alloc_draws _ _⟩
    · have hR := take_r HI.out HST.out.2.2
      have r0 : wr.cell? ⟨w.heap.size + 1, 0, none⟩ = some (.int .u8 0) := hR.1 0 _ rfl
      have r1 : wr.cell? ⟨w.heap.size + 1, 1, none⟩ = some (.int .i64 0) := hR.1 1 _ rfl
      have r2 : wr.cell? ⟨w.heap.size + 1, 2, none⟩ = some (.int .i64 0) := hR.1 2 _ rfl
      have r3 : wr.cell? ⟨w.heap.size + 1, 3, none⟩ = some (.int .i64 0) := hR.1 3 _ rfl
      have r4 : wr.cell? ⟨w.heap.size + 1, 4, none⟩ = some (.int .i64 0) := hR.1 4 _ rfl
      have r5 : wr.cell? ⟨w.heap.size + 1, 5, none⟩ = some (.int .i64 0) := hR.1 5 _ rfl
      have r6 : wr.cell? ⟨w.heap.size + 1, 6, none⟩ = some (.int .i64 0) := hR.1 6 _ rfl
      have f0 : ∀ j, wr.frozen? ⟨w.heap.size + 1, j, none⟩ = false := hR.2
      clear hR
      have HBF : Hid (Below w.heap.size w wr) := HBW.out.trans (HI.out.old (by omega))
      generalize hs : upTo t ps got K L 3 = s at *
      have HSS : Hid (upTo t ps got K L 3 = s) := hs
      have n0 : wr.cell? ⟨w.heap.size + 2, 0, none⟩ = some (.int .u8 s.ops) := HI.out.own 0 _ rfl
      have n1 : wr.cell? ⟨w.heap.size + 2, 1, none⟩ = some (.int .i64 s.p0) := HI.out.own 1 _ rfl
      have n2 : wr.cell? ⟨w.heap.size + 2, 2, none⟩ = some (.int .i64 s.p1) := HI.out.own 2 _ rfl
      have n3 : wr.cell? ⟨w.heap.size + 2, 3, none⟩ = some (.int .i64 s.p2) := HI.out.own 3 _ rfl
      have n4 : wr.cell? ⟨w.heap.size + 2, 4, none⟩ = some (.int .i64 s.o0) := HI.out.own 4 _ rfl
      have n5 : wr.cell? ⟨w.heap.size + 2, 5, none⟩ = some (.int .i64 s.o1) := HI.out.own 5 _ rfl
      have n6 : wr.cell? ⟨w.heap.size + 2, 6, none⟩ = some (.int .i64 s.o2) := HI.out.own 6 _ rfl
      clear hs HI HP HPS HT HST HPK HBW
      go_wp2_with fail
      refine bodyPost_ret (v := .agg s.cells) (by simp [results, Yba.results7, go_sem, r0, r1, r2, r3, r4, r5, r6, Ty.cells]) rfl ⟨by rw [HSS.out]; rfl, ?_⟩
      exact ((((((HBF.out.setCell (p := ⟨w.heap.size + 1, 0, none⟩) (by simp) _).setCell (p := ⟨w.heap.size + 1, 1, none⟩) (by simp) _).setCell (p := ⟨w.heap.size + 1, 2, none⟩) (by simp) _).setCell (p := ⟨w.heap.size + 1, 3, none⟩) (by simp) _).setCell (p := ⟨w.heap.size + 1, 4, none⟩) (by simp) _).setCell (p := ⟨w.heap.size + 1, 5, none⟩) (by simp) _).setCell (p := ⟨w.heap.size + 1, 6, none⟩) (by simp) _

end Go.Proofs.Ybulkdczq
