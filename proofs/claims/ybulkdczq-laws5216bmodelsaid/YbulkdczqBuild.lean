/-
  THE WALK of zzs5216bbuild (5).
-/
import Derived.Test.YbulkdczqTally
import Derived.RegionTactic
import Derived.BigRegion
import Derived.Deep.LoopGhost
import Derived.Lib.Builder
import Derived.Deep.RegionHeld3
import Derived.Laws.Rows
import Derived.Laws.CopyOwn
namespace Go.Proofs.Ybulkdczq
open Go.RowKit

def b8 (x : Int) : Prop := 0 ≤ x ∧ x ≤ 255

/-- Block nb holds cs; below N all else is as it was. -/
def InvC (N nb T : Nat) (w0 : World) (cs : Array Value) (w : World) : Prop :=
  nb < N ∧ N ≤ w.heap.size ∧ w.os = w0.os ∧ w.tape = w0.tape ∧ w.output = w0.output ∧ (∀ k, k < N → k ≠ nb → w.heap[k]? = w0.heap[k]?) ∧ w.heap[nb]? = some (.cells cs T (0, 0))

theorem InvC.cell {N nb T : Nat} {w0 w : World} {s : Array Value} (h : InvC N nb T w0 s w) {k o : Nat} (hk : k < N) (hne : k ≠ nb) : w.cell? ⟨k, o, none⟩ = w0.cell? ⟨k, o, none⟩ :=
  World.cell?_of_block (h.2.2.2.2.2.1 k hk hne)
theorem InvC.own {N nb T : Nat} {w0 w : World} {s : Array Value} (h : InvC N nb T w0 s w) (j : Nat) (v : Value) (hj : s[j]? = some v) : w.cell? ⟨nb, j, none⟩ = some v := by
  rw [Lib.cell_of_heap h.2.2.2.2.2.2]; exact hj
theorem InvC.soft {N nb T : Nat} {w0 w : World} {s : Array Value} (h : InvC N nb T w0 s w) (j : Nat) : w.frozen? ⟨nb, j, none⟩ = false := Lib.frozen_of_heap h.2.2.2.2.2.2 j
theorem InvC.put1 {N nb T : Nat} {w0 w : World} {s : Array Value} (h : InvC N nb T w0 s w) (j : Nat) (v : Value) : InvC N nb T w0 (s.setIfInBounds j v) (w.setCell ⟨nb, j, none⟩ v) := by
  obtain ⟨h1, h2, h3, h4, h5, h6, h7⟩ := h
  refine ⟨h1, ?_, h3, h4, h5, fun k hk hne => ?_, ?_⟩
  · simpa [World.setCell] using h2
  · rw [Below.heap_setCell _ _ _ _ hne]; exact h6 k hk hne
  · simp [World.setCell, Array.getElem?_modify, h7]
theorem InvC.drew {N nb T : Nat} {w0 w : World} {s : Array Value} (h : InvC N nb T w0 s w) : InvC N nb T w0 s w.drew := h
theorem InvC.old {N nb T B : Nat} {w0 w : World} {s : Array Value} (h : InvC N nb T w0 s w) (hB : B ≤ nb) (hs : w0.heap.size ≤ N) : Below B w0 w :=
  ⟨h.2.2.1, h.2.2.2.1, h.2.2.2.2.1, Nat.le_trans hs h.2.1, fun k hk => h.2.2.2.2.2.1 k (by have := h.1; omega) (by omega)⟩

def zero15 : Array Value := #[.int .i64 0, .int .i64 0, .int .i64 0, .int .i64 0, .bool false, .int .i64 0, .int .i64 0, .int .i64 0, .int .i64 0, .bool false, .int .i64 0, .int .i64 0, .int .i64 0, .int .i64 0, .bool false]

theorem start3 (w : World) (src : Array Value) (T0 T1 : Nat) (z : Array Value) :
    InvC (w.heap.size + 3) (w.heap.size + 2) T1 (((w.alloc (.cells src T0)).alloc (.cells z T1)).alloc (.cells z T1)) z (((w.alloc (.cells src T0)).alloc (.cells z T1)).alloc (.cells z T1)) ∧
    (∀ j v, src[j]? = some v → (((w.alloc (.cells src T0)).alloc (.cells z T1)).alloc (.cells z T1)).cell? ⟨w.heap.size, j, none⟩ = some v) ∧
    (((w.alloc (.cells src T0)).alloc (.cells z T1)).alloc (.cells z T1)).heap[w.heap.size + 1]? = some (.cells z T1 (0, 0)) := by
  have h0 : (((w.alloc (.cells src T0)).alloc (.cells z T1)).alloc (.cells z T1)).heap[w.heap.size]? = some (.cells src T0 (0, 0)) := by
    show (((w.heap.push _).push _).push _)[w.heap.size]? = _
    rw [Array.getElem?_push, if_neg (by simp; omega), Array.getElem?_push, if_neg (by simp), Array.getElem?_push, if_pos rfl]
  have h1 : (((w.alloc (.cells src T0)).alloc (.cells z T1)).alloc (.cells z T1)).heap[w.heap.size + 1]? = some (.cells z T1 (0, 0)) := by
    show (((w.heap.push _).push _).push _)[w.heap.size + 1]? = _
    rw [Array.getElem?_push, if_neg (by simp), Array.getElem?_push, if_pos (by simp)]
  have h2 : (((w.alloc (.cells src T0)).alloc (.cells z T1)).alloc (.cells z T1)).heap[w.heap.size + 2]? = some (.cells z T1 (0, 0)) := by
    show (((w.heap.push _).push _).push _)[w.heap.size + 2]? = _
    rw [Array.getElem?_push, if_pos (by simp)]
  refine ⟨⟨by omega, by simp, rfl, rfl, rfl, fun _ _ _ => rfl, h2⟩, fun j v hj => ?_, h1⟩
  rw [Lib.cell_of_heap h0]; exact hj

theorem cell_apart (w : World) (a : Addr) (v : Value) (b : Addr) (h : b.block ≠ a.block) : (w.setCell a v).cell? b = w.cell? b :=
  World.cell?_of_block (heap_setCell_other w a b.block v h)
theorem cell_drewB (w : World) (b : Addr) : w.drew.cell? b = w.cell? b := rfl

/-- One picked row as it comes. -/
structure Rp where
  P : Int
  l : Int
  o : Int
  r : Int
  b : Bool
def Rp.ok (q : Rp) : Prop := s16 q.P ∧ s16 q.l ∧ b8 q.o ∧ b8 q.r
def srcOf (q : Nat → Rp) : Array Value := #[.int .i16 (q 0).P, .int .i16 (q 0).l, .int .u8 (q 0).o, .int .u8 (q 0).r, .bool (q 0).b, .int .i16 (q 1).P, .int .i16 (q 1).l, .int .u8 (q 1).o, .int .u8 (q 1).r, .bool (q 1).b, .int .i16 (q 2).P, .int .i16 (q 2).l, .int .u8 (q 2).o, .int .u8 (q 2).r, .bool (q 2).b]
def dstOf (q : Nat → Rp) : Array Value := #[.int .i64 (q 0).P, .int .i64 (q 0).l, .int .i64 ((q 0).o % 4), .int .i64 ((q 0).r % 4), .bool (q 0).b, .int .i64 (q 1).P, .int .i64 (q 1).l, .int .i64 ((q 1).o % 4), .int .i64 ((q 1).r % 4), .bool (q 1).b, .int .i64 (q 2).P, .int .i64 (q 2).l, .int .i64 ((q 2).o % 4), .int .i64 ((q 2).r % 4), .bool (q 2).b]
def bst (q : Nat → Rp) : Nat → Array Value
  | 0 => zero15
  | i + 1 => (((((bst q i).setIfInBounds (i * 5) (.int .i64 (q i).P)).setIfInBounds (i * 5 + 1) (.int .i64 (q i).l)).setIfInBounds (i * 5 + 2) (.int .i64 ((q i).o % 4))).setIfInBounds (i * 5 + 3) (.int .i64 ((q i).r % 4))).setIfInBounds (i * 5 + 4) (.bool (q i).b)
theorem bst_end (q : Nat → Rp) : bst q 3 = dstOf q := by simp [bst, zero15, dstOf]
theorem bst_new (q : Nat → Rp) (i : Nat) (hi : i < 3) : (bst q i)[i * 5]? = some (.int .i64 0) ∧ (bst q i)[i * 5 + 1]? = some (.int .i64 0) ∧ (bst q i)[i * 5 + 2]? = some (.int .i64 0) ∧ (bst q i)[i * 5 + 3]? = some (.int .i64 0) ∧ (bst q i)[i * 5 + 4]? = some (.bool false) := by
  rcases (show i = 0 ∨ i = 1 ∨ i = 2 by omega) with rfl | rfl | rfl <;> simp [bst, zero15]
theorem srcOf_at (q : Nat → Rp) (i : Nat) (hi : i < 3) : (srcOf q)[i * 5]? = some (.int .i16 (q i).P) ∧ (srcOf q)[i * 5 + 1]? = some (.int .i16 (q i).l) ∧ (srcOf q)[i * 5 + 2]? = some (.int .u8 (q i).o) ∧ (srcOf q)[i * 5 + 3]? = some (.int .u8 (q i).r) ∧ (srcOf q)[i * 5 + 4]? = some (.bool (q i).b) := by
  rcases (show i = 0 ∨ i = 1 ∨ i = 2 by omega) with rfl | rfl | rfl <;> simp [srcOf]

theorem dstOf_one (q : Nat → Rp) : (dstOf q).all (·.oneCell') = true := by simp [dstOf, Value.oneCell']

set_option maxHeartbeats 4000000 in
set_option maxRecDepth 100000 in
theorem build_any (q : Nat → Rp) (w : World) (hq : ∀ i, i < 3 → (q i).ok) :
    Calls Yba.prog 5 #[.agg (srcOf q)] w fun e w' => e = .returned (.agg (dstOf q)) ∧ Below w.heap.size w w' := by
  have hst := start3 w (srcOf q) 28 32 zero15
  have hW0s : (((w.alloc (.cells (srcOf q) 28)).alloc (.cells zero15 32)).alloc (.cells zero15 32)).heap.size ≤ w.heap.size + 3 := by simp
  have hbw : Below w.heap.size w (((w.alloc (.cells (srcOf q) 28)).alloc (.cells zero15 32)).alloc (.cells zero15 32)) := (((Below.refl _ w).alloc (Nat.le_refl _) _).alloc (by simp) _).alloc (by simp; omega) _
  have HST : Hid (InvC (w.heap.size + 3) (w.heap.size + 2) 32 (((w.alloc (.cells (srcOf q) 28)).alloc (.cells zero15 32)).alloc (.cells zero15 32)) zero15 (((w.alloc (.cells (srcOf q) 28)).alloc (.cells zero15 32)).alloc (.cells zero15 32)) ∧
    (∀ j v, (srcOf q)[j]? = some v → (((w.alloc (.cells (srcOf q) 28)).alloc (.cells zero15 32)).alloc (.cells zero15 32)).cell? ⟨w.heap.size, j, none⟩ = some v) ∧
    (((w.alloc (.cells (srcOf q) 28)).alloc (.cells zero15 32)).alloc (.cells zero15 32)).heap[w.heap.size + 1]? = some (.cells zero15 32 (0, 0))) := hst
  have HQ : Hid (∀ i, i < 3 → (q i).ok) := hq
  have HWS : Hid ((((w.alloc (.cells (srcOf q) 28)).alloc (.cells zero15 32)).alloc (.cells zero15 32)).heap.size ≤ w.heap.size + 3) := hW0s
  have HBW : Hid (Below w.heap.size w (((w.alloc (.cells (srcOf q) 28)).alloc (.cells zero15 32)).alloc (.cells zero15 32))) := hbw
  clear hst hW0s hbw hq
  have hsz : (srcOf q).size = 15 := rfl
  go_enter Yba.func5, Yba.ntmps5
  go_wp2_with fail
  have hold : Hid (zero15 = #[.int .i64 0, .int .i64 0, .int .i64 0, .int .i64 0, .bool false, .int .i64 0, .int .i64 0, .int .i64 0, .int .i64 0, .bool false, .int .i64 0, .int .i64 0, .int .i64 0, .int .i64 0, .bool false]) := rfl
  unfold zero15 at HST HWS HBW
  generalize (((w.alloc (.cells (srcOf q) 28)).alloc (.cells #[.int .i64 0, .int .i64 0, .int .i64 0, .int .i64 0, .bool false, .int .i64 0, .int .i64 0, .int .i64 0, .int .i64 0, .bool false, .int .i64 0, .int .i64 0, .int .i64 0, .int .i64 0, .bool false] 32)).alloc (.cells #[.int .i64 0, .int .i64 0, .int .i64 0, .int .i64 0, .bool false, .int .i64 0, .int .i64 0, .int .i64 0, .int .i64 0, .bool false, .int .i64 0, .int .i64 0, .int .i64 0, .int .i64 0, .bool false] 32)) = W0 at *
  obtain ⟨hst1, hst2, hst3⟩ := HST.out
  have HS1 : Hid (InvC (w.heap.size + 3) (w.heap.size + 2) 32 W0 (bst q 0) W0) := hst1
  have HS2 : Hid (∀ j v, (srcOf q)[j]? = some v → W0.cell? ⟨w.heap.size, j, none⟩ = some v) := hst2
  have HS3 : Hid (W0.heap[w.heap.size + 1]? = some (.cells zero15 32 (0, 0))) := hst3
  clear hst1 hst2 hst3 HST hsz
  go_loopg [4] 3 (fun kx s wr => ∃ i : Nat, s = .int .i64 i ∧ i ≤ 3 ∧ 3 - i ≤ kx ∧ Hid (InvC (w.heap.size + 3) (w.heap.size + 2) 32 W0 (bst q i) wr))
  case atStart => exact ⟨0, rfl, by omega, by omega, HS1⟩
  case round =>
    obtain ⟨i, rfl, hi, hg2, HI⟩ := hrel
    by_cases hi3 : i < 3
    · obtain ⟨⟨q1, q2⟩, ⟨q3, q4⟩, ⟨q5, q6⟩, ⟨q7, q8⟩⟩ := HQ.out i hi3
      have sc := fun j v hj => (HI.out.cell (k := w.heap.size) (o := j) (by omega) (by omega)).trans (HS2.out j v hj)
      obtain ⟨t0, t1, t2, t3, t4⟩ := srcOf_at q i hi3
      obtain ⟨u0, u1, u2, u3, u4⟩ := bst_new q i hi3
      have s0 := sc _ _ t0
      have s1 := sc _ _ t1
      have s2 := sc _ _ t2
      have s3 := sc _ _ t3
      have s4 := sc _ _ t4
      have d0 := HI.out.own _ _ u0
      have d1 := HI.out.own _ _ u1
      have d2 := HI.out.own _ _ u2
      have d3 := HI.out.own _ _ u3
      have d4 := HI.out.own _ _ u4
      have f0 := HI.out.soft (i * 5)
      have f1 := HI.out.soft (i * 5 + 1)
      have f2 := HI.out.soft (i * 5 + 2)
      have f3 := HI.out.soft (i * 5 + 3)
      have f4 := HI.out.soft (i * 5 + 4)
      have hi3' : (i : Int) < 3 := by omega
      have hi0 : (0 : Int) ≤ i := by omega
      clear sc t0 t1 t2 t3 t4 u0 u1 u2 u3 u4
      generalize hxp : (q i).P = xp at *
      generalize hxl : (q i).l = xl at *
      generalize hxo : (q i).o = xo at *
      generalize hxr : (q i).r = xr at *
      generalize hxb : (q i).b = xb at *
      go_wp2_with fail
      go_region_held3 (fun w' => w'.cell? ⟨w.heap.size, i * 5, none⟩ = some (.int .i16 xp) ∧ w'.cell? ⟨w.heap.size, i * 5 + 1, none⟩ = some (.int .i16 xl) ∧ w'.cell? ⟨w.heap.size, i * 5 + 2, none⟩ = some (.int .u8 xo) ∧ w'.cell? ⟨w.heap.size, i * 5 + 3, none⟩ = some (.int .u8 xr) ∧ w'.cell? ⟨w.heap.size, i * 5 + 4, none⟩ = some (.bool xb)) ((refine ⟨?_, ?_, ?_, ?_, ?_⟩ <;> ((try rw [cell_drewB]); (repeat rw [cell_apart _ _ _ _ (by show w.heap.size ≠ w.heap.size + 1 + 1; omega)]); assumption))) (fail)
      go_wp2_with fail
      go_roundg (3 - (i + 1))
      case measure => omega
      case rel =>
        refine ⟨i + 1, by go_num, by omega, Nat.le_refl _, ?_⟩
        have HF := ((((HI.out.put1 (i * 5) (.int .i64 xp)).put1 (i * 5 + 1) (.int .i64 xl)).put1 (i * 5 + 2) (.int .i64 (xo % 4))).put1 (i * 5 + 3) (.int .i64 (xr % 4))).put1 (i * 5 + 4) (.bool xb)
        subst hxp hxl hxo hxr hxb
        exact HF.drew
    · have e3 : i = 3 := by omega
      subst e3
      have hr1 : wr.heap[w.heap.size + 1]? = some (.cells zero15 32 (0, 0)) := (HI.out.2.2.2.2.2.1 _ (by omega) (by omega)).trans HS3.out
      have hr2 : wr.heap[w.heap.size + 1 + 1]? = some (.cells (dstOf q) 32 (0, 0)) := by rw [← bst_end]; exact HI.out.2.2.2.2.2.2
      have HBF : Hid (Below w.heap.size w wr) := HBW.out.trans (HI.out.old (by omega) HWS.out)
      have hz : zero15.size = 15 := rfl
      have hd : (dstOf q).size = 15 := rfl
      have h1c : (dstOf q).all (·.oneCell') = true := dstOf_one q
      generalize hzz : zero15 = Z at *
      generalize hdd : dstOf q = D at *
      clear HS1 HS2 HS3 HI HWS HBW HQ hold
      go_wp2_with (first | (refine wpList_load_row rfl 32 _ rfl _ rfl 32 D (0, 0) _ hr2 Yba.underlying32 rfl (by simp only [hd]; rfl) ?_) | (refine wpList_store_row rfl 32 _ _ rfl _ D rfl rfl 32 Z hr1 (by simp only [hd]; rfl) (by rw [hz, hd]) h1c ?_))
      refine bodyPost_ret (v := .agg D) (results_cell_row (p := 2) (ty := 32) rfl _ _ (w.heap.size + 1) 32 D (0, 0) _ rfl (setRow_heap wr _ Z D 32 (0, 0) hr1) Yba.underlying32 rfl (by simp only [hd]; rfl)) rfl ⟨by rw [hdd], ?_⟩
      exact below_setRow HBF.out (by omega) _
end Go.Proofs.Ybulkdczq
