/-
  THE WALK of LawS5216BModel (3).
-/
import Derived.Test.YbulkdczqEq
import Derived.Test.YbulkdczqTake
import Derived.Test.YbulkdczqArgs
namespace Go.Proofs.Ybulkdczq
open Go.RowKit

def pksOf (q : Nat → Rp) (i : Nat) : Pk := ⟨(q i).P, (q i).l, (q i).o % 4, (q i).r % 4, (q i).b⟩

theorem Ty.cells_one (t : Ty) : t.cells.all (·.oneCell') = true := by simp [Ty.cells, Value.oneCell']
theorem tally_t (t : Ty) (w : World) (ht : t.ok) : Calls Yba.prog 6 #[.agg (tsrc t)] w fun e w' => e = .returned (.agg t.cells) ∧ Below w.heap.size w w' :=
  tally_any t.ops t.p0 t.p1 t.p2 t.o0 t.o1 t.o2 w ht.2.1 ht.2.2.1 ht.2.2.2.1 ht.2.2.2.2.1 ht.2.2.2.2.2.1 ht.2.2.2.2.2.2
theorem dst_cells {w : World} {pb : Nat} {q : Nat → Rp} (h : w.heap[pb]? = some (.cells (dstOf q) 32 (0, 0))) : ∀ i, i < 3 → w.cell? ⟨pb, i * 5, none⟩ = some (.int .i64 (pksOf q i).P) ∧ w.cell? ⟨pb, i * 5 + 1, none⟩ = some (.int .i64 (pksOf q i).lo) ∧ w.cell? ⟨pb, i * 5 + 2, none⟩ = some (.int .i64 (pksOf q i).o) ∧ w.cell? ⟨pb, i * 5 + 3, none⟩ = some (.int .i64 (pksOf q i).r) ∧ w.cell? ⟨pb, i * 5 + 4, none⟩ = some (.bool (pksOf q i).b) := by
  intro i hi
  rw [Lib.cell_of_heap h, Lib.cell_of_heap h, Lib.cell_of_heap h, Lib.cell_of_heap h, Lib.cell_of_heap h]
  rcases (show i = 0 ∨ i = 1 ∨ i = 2 by omega) with rfl | rfl | rfl <;> exact ⟨rfl, rfl, rfl, rfl, rfl⟩
theorem take_q (t : Ty) (q : Nat → Rp) (got K L : Int) (pb : Nat) (w : World) (h : w.heap[pb]? = some (.cells (dstOf q) 32 (0, 0))) (ht : t.ok) (hq : ∀ i, i < 3 → (q i).ok) (hK : i16 K) :
    Calls Yba.prog 7 #[.agg t.cells, .pointer (some ⟨pb, 0, none⟩), .int .u8 got, .int .i64 K, .int .i64 L] w fun e w' => e = .returned (.agg (upTo t (pksOf q) got K L 3).cells) ∧ Below w.heap.size w w' :=
  take_any t (pksOf q) got K L pb w ((Array.getElem?_eq_some_iff.1 h).1) (dst_cells h) ht (fun i hi => by
    obtain ⟨⟨a, b⟩, ⟨c, d⟩, ⟨e, f⟩, ⟨g, k⟩⟩ := hq i hi
    exact ⟨⟨a, b⟩, ⟨c, d⟩, ⟨by simp only [pksOf]; omega, by simp only [pksOf]; omega⟩, ⟨by simp only [pksOf]; omega, by simp only [pksOf]; omega⟩⟩) hK

/-- wp (block N + 1) and wo (block N + 2) hold s; below N + 3 all else is as it was. -/
def InvL (N : Nat) (w0 : World) (s : Ty) (w : World) : Prop :=
  N + 3 ≤ w.heap.size ∧ w.os = w0.os ∧ w.tape = w0.tape ∧ w.output = w0.output ∧ (∀ k, k < N + 1 → w.heap[k]? = w0.heap[k]?) ∧ w.heap[N + 1]? = some (.cells #[.int .i64 s.p0, .int .i64 s.p1, .int .i64 s.p2] 35 (0, 0)) ∧ w.heap[N + 1 + 1]? = some (.cells #[.int .i64 s.o0, .int .i64 s.o1, .int .i64 s.o2] 35 (0, 0))
theorem InvL.cell {N : Nat} {w0 w : World} {s : Ty} (h : InvL N w0 s w) {k o : Nat} (hk : k < N + 1) : w.cell? ⟨k, o, none⟩ = w0.cell? ⟨k, o, none⟩ :=
  World.cell?_of_block (h.2.2.2.2.1 k hk)
theorem InvL.set {N : Nat} {w0 w : World} {s s' : Ty} (h : InvL N w0 s w) (j : Nat) (v u : Value) (hs : (#[.int .i64 s.p0, .int .i64 s.p1, .int .i64 s.p2] : Array Value).setIfInBounds j v = #[.int .i64 s'.p0, .int .i64 s'.p1, .int .i64 s'.p2]) (ho : (#[.int .i64 s.o0, .int .i64 s.o1, .int .i64 s.o2] : Array Value).setIfInBounds j u = #[.int .i64 s'.o0, .int .i64 s'.o1, .int .i64 s'.o2]) :
    InvL N w0 s' ((w.setCell ⟨N + 1, j, none⟩ v).setCell ⟨N + 1 + 1, j, none⟩ u) := by
  obtain ⟨h2, h3, h4, h5, h6, h7, h8⟩ := h
  refine ⟨?_, h3, h4, h5, fun k hk => ?_, ?_, ?_⟩
  · simpa [World.setCell] using h2
  · rw [Below.heap_setCell _ _ _ _ (by simp; omega), Below.heap_setCell _ _ _ _ (by simp; omega)]; exact h6 k hk
  · rw [Below.heap_setCell _ _ _ _ (by simp)]
    simp [World.setCell, Array.getElem?_modify, h7, hs]
  · have h8' : (w.setCell ⟨N + 1, j, none⟩ v).heap[N + 1 + 1]? = some (.cells #[.int .i64 s.o0, .int .i64 s.o1, .int .i64 s.o2] 35 (0, 0)) := by
      rw [Below.heap_setCell _ _ _ _ (by simp)]; exact h8
    rw [heap_setCell_same _ _ _ _ _ _ h8', ho]
theorem InvL.old {N B : Nat} {w0 w : World} {s : Ty} (h : InvL N w0 s w) (hB : B ≤ N) (hs : w0.heap.size ≤ N + 3) : Below B w0 w :=
  ⟨h.2.1, h.2.2.1, h.2.2.2.1, Nat.le_trans hs h.1, fun k hk => h.2.2.2.2.1 k (by omega)⟩

/-- What is left of the counts where they can still close. -/
theorem out_some {t : Ty} {P lo o r : Int} {bb : Bool} {got K L : Int} {op : Nat} {a b h : Int} (hc : cnt t ⟨P, lo, o, r, bb⟩ got K op = some (a, b)) (hh : (if bb then P else lo) = h) (h1 : a ≤ P) (h2 : P - a ≤ L) (h3 : b ≤ h) (h4 : lo - b ≤ P - a) : outc t ⟨P, lo, o, r, bb⟩ got K L op = some (a, b) := by
  have e : openB P lo bb a b L = true := by
    simp only [openB, hh, Bool.and_eq_true, decide_eq_true_eq]; omega
  simp [outc, hc, e]
theorem out_none {t : Ty} {P lo o r : Int} {bb : Bool} {got K L : Int} {op : Nat} {a b h : Int} (hc : cnt t ⟨P, lo, o, r, bb⟩ got K op = some (a, b)) (hh : (if bb then P else lo) = h) (h1 : ¬ (a ≤ P ∧ P - a ≤ L ∧ b ≤ h ∧ lo - b ≤ P - a)) : outc t ⟨P, lo, o, r, bb⟩ got K L op = none := by
  have e : openB P lo bb a b L = false := by
    apply Bool.eq_false_iff.2
    simp only [openB, hh, ne_eq, Bool.and_eq_true, decide_eq_true_eq]; omega
  simp [outc, hc, e]
theorem out_gone {t : Ty} {p : Pk} {got K L : Int} {op : Nat} (hc : cnt t p got K op = none) : outc t p got K L op = none := by simp [outc, hc]
theorem pow_byte (x : Int) (h0 : 0 ≤ x) (h3 : x ≤ 3) : (2 ^ x.toNat % 256 : Int) = 2 ^ x.toNat := by
  rcases (show x = 0 ∨ x = 1 ∨ x = 2 ∨ x = 3 by omega) with rfl | rfl | rfl | rfl <;> rfl
/-- A round that leaves op out. -/
theorem leaf_none {t : Ty} {ps : Nat → Pk} {got K L : Int} {i N : Nat} {W0 wr : World} (ho : outc t (ps i) got K L i = none) (h : InvL N W0 (upTo t ps got K L i) wr) :
    Value.int .u8 (upTo t ps got K L i).ops = .int .u8 (upTo t ps got K L (i + 1)).ops ∧ Hid (InvL N W0 (upTo t ps got K L (i + 1)) wr) := by
  rw [upTo, ho]; exact ⟨rfl, h⟩
/-- A round that lays op in. -/
theorem leaf_some {t : Ty} {ps : Nat → Pk} {got K L : Int} {i N : Nat} {W0 wr : World} {a b : Int} (hi : i < 3) (ho : outc t (ps i) got K L i = some (a, b)) (h : InvL N W0 (upTo t ps got K L i) wr) :
    Value.int .u8 (bits BinOp.or IntKind.u8 (upTo t ps got K L i).ops (2 ^ i % 256)) = .int .u8 (upTo t ps got K L (i + 1)).ops ∧ Hid (InvL N W0 (upTo t ps got K L (i + 1)) ((wr.setCell ⟨N + 1, i, none⟩ (.int .i64 a)).setCell ⟨N + 1 + 1, i, none⟩ (.int .i64 b))) := by
  rw [upTo, ho]
  rcases (show i = 0 ∨ i = 1 ∨ i = 2 by omega) with rfl | rfl | rfl
  · exact ⟨rfl, h.set 0 _ _ rfl rfl⟩
  · exact ⟨rfl, h.set 1 _ _ rfl rfl⟩
  · exact ⟨rfl, h.set 2 _ _ rfl rfl⟩
theorem tsrc_at (t : Ty) (i : Nat) (hi : i < 3) : (tsrc t)[0]? = some (.int .u8 t.ops) ∧ (tsrc t)[1 + i]? = some (.int .i16 (t.parts i)) ∧ (tsrc t)[4 + i]? = some (.int .i16 (t.of i)) := by
  rcases (show i = 0 ∨ i = 1 ∨ i = 2 by omega) with rfl | rfl | rfl <;> exact ⟨rfl, rfl, rfl⟩
theorem wp_at (x y z : Int) (i : Nat) (hi : i < 3) : ∃ v, (#[.int .i64 x, .int .i64 y, .int .i64 z] : Array Value)[i]? = some (.int .i64 v) := by
  rcases (show i = 0 ∨ i = 1 ∨ i = 2 by omega) with rfl | rfl | rfl
  · exact ⟨x, rfl⟩
  · exact ⟨y, rfl⟩
  · exact ⟨z, rfl⟩
theorem Ty.ok_at {t : Ty} (h : t.ok) (i : Nat) : i16 (t.parts i) ∧ i16 (t.of i) := by
  match i with
  | 0 => exact ⟨h.2.1, h.2.2.2.2.1⟩
  | 1 => exact ⟨h.2.2.1, h.2.2.2.2.2.1⟩
  | _ + 2 => exact ⟨h.2.2.2.1, h.2.2.2.2.2.2⟩

set_option maxHeartbeats 8000000 in
set_option maxRecDepth 100000 in
theorem law_any (t : Ty) (q : Nat → Rp) (got K L : Int) (w : World) (ht : t.ok) (hq : ∀ i, i < 3 → (q i).ok) (hg : b8 got) (hK : i16 K) (hL : i16 L) :
    Calls Yba.prog 3 #[.agg (tsrc t), .agg (srcOf q), .int .u8 got, .int .i16 K, .int .i16 L] w fun e w' => e = .returned (.bool true) ∧ Below w.heap.size w w' := by
  have HT : Hid t.ok := ht
  have HQ : Hid (∀ i, i < 3 → (q i).ok) := hq
  have HK : Hid (i16 K) := hK
  obtain ⟨_, _⟩ := hg
  obtain ⟨_, _⟩ := hK
  obtain ⟨_, _⟩ := hL
  have h25 : ((w.alloc (.cells (tsrc t) 25)).alloc (.cells (srcOf q) 28)).heap[w.heap.size]? = some (.cells (tsrc t) 25 (0, 0)) := heap_alloc2_old w _ _
  have h28 : ((w.alloc (.cells (tsrc t) 25)).alloc (.cells (srcOf q) 28)).heap[w.heap.size + 1]? = some (.cells (srcOf q) 28 (0, 0)) := heap_alloc2_new w _ _
  have hs1 : ((w.alloc (.cells (tsrc t) 25)).alloc (.cells (srcOf q) 28)).heap.size = w.heap.size + 2 := by simp
  have hB1 : Below w.heap.size w ((w.alloc (.cells (tsrc t) 25)).alloc (.cells (srcOf q) 28)) := ((Below.refl _ w).alloc (Nat.le_refl _) _).alloc (by simp) _
  have hz1 : (tsrc t).size = 7 := rfl
  have hz2 : (srcOf q).size = 15 := rfl
  clear ht hq
  go_enter Yba.func3, Yba.ntmps3
  go_wp2_with (refine wpList_load_row rfl 28 _ rfl _ rfl 28 (srcOf q) (0, 0) _ h28 Yba.underlying28 rfl rfl ?_)
  go_at_call 5
  refine (build_any q _ HQ.out).mono ?_
  rintro e wA ⟨rfl, hbA⟩
  have a25 : wA.heap[w.heap.size]? = some (.cells (tsrc t) 25 (0, 0)) := (hbA.block _ (by omega)).trans h25
  have a28 : wA.heap[w.heap.size + 1]? = some (.cells (srcOf q) 28 (0, 0)) := (hbA.block _ (by omega)).trans h28
  have asz : w.heap.size + 2 ≤ wA.heap.size := by have := hbA.size; omega
  have aB : Hid (Below w.heap.size w wA) := hB1.trans (hbA.mono (by omega))
  clear h25 h28 hbA hB1 hs1
  have b25 : ((wA.alloc (.cells (dstOf q) 32)).alloc (.cells (dstOf q) 32)).heap[w.heap.size]? = some (.cells (tsrc t) 25 (0, 0)) := by
    rw [heap_alloc_old _ _ (by simp; omega), heap_alloc_old _ _ (by omega)]; exact a25
  have b28 : ((wA.alloc (.cells (dstOf q) 32)).alloc (.cells (dstOf q) 32)).heap[w.heap.size + 1]? = some (.cells (srcOf q) 28 (0, 0)) := by
    rw [heap_alloc_old _ _ (by simp; omega), heap_alloc_old _ _ (by omega)]; exact a28
  have b32 : ((wA.alloc (.cells (dstOf q) 32)).alloc (.cells (dstOf q) 32)).heap[wA.heap.size]? = some (.cells (dstOf q) 32 (0, 0)) := heap_alloc2_old wA _ _
  have b33 : ((wA.alloc (.cells (dstOf q) 32)).alloc (.cells (dstOf q) 32)).heap[wA.heap.size + 1]? = some (.cells (dstOf q) 32 (0, 0)) := heap_alloc2_new wA _ _
  have bsz : ((wA.alloc (.cells (dstOf q) 32)).alloc (.cells (dstOf q) 32)).heap.size = wA.heap.size + 2 := by simp
  have bB : Hid (Below w.heap.size w ((wA.alloc (.cells (dstOf q) 32)).alloc (.cells (dstOf q) 32))) := (aB.out.alloc (by omega) _).alloc (by simp; omega) _
  have hzd : (dstOf q).size = 15 := rfl
  go_wp2_with (first | (refine wpList_store_new rfl 32 _ _ rfl (dstOf q) (by first | rfl | (show Value.pointer _ = Value.pointer _; simp)) rfl 32 _ rfl rfl (dstOf_one q) ?_) | (refine wpList_load_row rfl 32 _ rfl wA.heap.size rfl 32 (dstOf q) (0, 0) _ (heap_alloc_new wA _) Yba.underlying32 rfl rfl ?_) | (refine wpList_load_row rfl 25 _ rfl w.heap.size rfl 25 (tsrc t) (0, 0) _ b25 Yba.underlying25 rfl rfl ?_))
  go_at_call 6
  refine (tally_t t _ HT.out).mono ?_
  rintro e wB ⟨rfl, hbB⟩
  have c25 : wB.heap[w.heap.size]? = some (.cells (tsrc t) 25 (0, 0)) := (hbB.block _ (by omega)).trans b25
  have c28 : wB.heap[w.heap.size + 1]? = some (.cells (srcOf q) 28 (0, 0)) := (hbB.block _ (by omega)).trans b28
  have c32 : wB.heap[wA.heap.size]? = some (.cells (dstOf q) 32 (0, 0)) := (hbB.block _ (by omega)).trans b32
  have c33 : wB.heap[wA.heap.size + 1]? = some (.cells (dstOf q) 32 (0, 0)) := (hbB.block _ (by omega)).trans b33
  have csz : wA.heap.size + 2 ≤ wB.heap.size := by have := hbB.size; omega
  have cB : Hid (Below w.heap.size w wB) := bB.out.trans (hbB.mono (by omega))
  clear b25 b28 b32 b33 bsz bB hbB aB a25 a28
  have d25 : (wB.alloc (.cells t.cells 37)).heap[w.heap.size]? = some (.cells (tsrc t) 25 (0, 0)) := by
    rw [heap_alloc_old _ _ (by omega)]; exact c25
  have d28 : (wB.alloc (.cells t.cells 37)).heap[w.heap.size + 1]? = some (.cells (srcOf q) 28 (0, 0)) := by
    rw [heap_alloc_old _ _ (by omega)]; exact c28
  have d32 : (wB.alloc (.cells t.cells 37)).heap[wA.heap.size]? = some (.cells (dstOf q) 32 (0, 0)) := by
    rw [heap_alloc_old _ _ (by omega)]; exact c32
  have d33 : (wB.alloc (.cells t.cells 37)).heap[wA.heap.size + 1]? = some (.cells (dstOf q) 32 (0, 0)) := by
    rw [heap_alloc_old _ _ (by omega)]; exact c33
  have dsz : (wB.alloc (.cells t.cells 37)).heap.size = wB.heap.size + 1 := by simp
  have dB : Hid (Below w.heap.size w (wB.alloc (.cells t.cells 37))) := cB.out.alloc (by omega) _
  have hzt : t.cells.size = 7 := rfl
  go_wp2_with (first | (refine wpList_store_new rfl 37 _ _ rfl t.cells rfl rfl 37 _ rfl rfl t.cells_one ?_) | (refine wpList_load_row rfl 37 _ rfl wB.heap.size rfl 37 t.cells (0, 0) _ (heap_alloc_new wB _) Yba.underlying37 rfl rfl ?_))
  go_at_call 7
  refine (take_q t q got K L wA.heap.size _ d32 HT.out HQ.out HK.out).mono ?_
  rintro e wC ⟨rfl, hbC⟩
  have e25 : wC.heap[w.heap.size]? = some (.cells (tsrc t) 25 (0, 0)) := (hbC.block _ (by omega)).trans d25
  have e28 : wC.heap[w.heap.size + 1]? = some (.cells (srcOf q) 28 (0, 0)) := (hbC.block _ (by omega)).trans d28
  have e32 : wC.heap[wA.heap.size]? = some (.cells (dstOf q) 32 (0, 0)) := (hbC.block _ (by omega)).trans d32
  have e33 : wC.heap[wA.heap.size + 1]? = some (.cells (dstOf q) 32 (0, 0)) := (hbC.block _ (by omega)).trans d33
  have esz : wB.heap.size + 1 ≤ wC.heap.size := by have := hbC.size; omega
  have eB : Hid (Below w.heap.size w wC) := dB.out.trans (hbC.mono (by omega))
  clear d25 d28 d32 d33 dsz dB hbC cB c25 c28 c32 c33
  have hzu : (upTo t (pksOf q) got K L 3).cells.size = 7 := rfl
  have f25 : (wC.alloc (.cells (upTo t (pksOf q) got K L 3).cells 37)).heap[w.heap.size]? = some (.cells (tsrc t) 25 (0, 0)) := by
    rw [heap_alloc_old _ _ (by omega)]; exact e25
  have f28 : (wC.alloc (.cells (upTo t (pksOf q) got K L 3).cells 37)).heap[w.heap.size + 1]? = some (.cells (srcOf q) 28 (0, 0)) := by
    rw [heap_alloc_old _ _ (by omega)]; exact e28
  have f32 : (wC.alloc (.cells (upTo t (pksOf q) got K L 3).cells 37)).heap[wA.heap.size]? = some (.cells (dstOf q) 32 (0, 0)) := by
    rw [heap_alloc_old _ _ (by omega)]; exact e32
  have f33 : (wC.alloc (.cells (upTo t (pksOf q) got K L 3).cells 37)).heap[wA.heap.size + 1]? = some (.cells (dstOf q) 32 (0, 0)) := by
    rw [heap_alloc_old _ _ (by omega)]; exact e33
  have f37 : (wC.alloc (.cells (upTo t (pksOf q) got K L 3).cells 37)).heap[wC.heap.size]? = some (.cells (upTo t (pksOf q) got K L 3).cells 37 (0, 0)) := heap_alloc_new wC _
  have fsz : (wC.alloc (.cells (upTo t (pksOf q) got K L 3).cells 37)).heap.size = wC.heap.size + 1 := by simp
  have fB : Hid (Below w.heap.size w (wC.alloc (.cells (upTo t (pksOf q) got K L 3).cells 37))) := eB.out.alloc (by omega) _
  clear eB e25 e28 e32 e33
  have nq := neq32 q
  have gq := fun x y => run_eqGuard_agg (P := Yba.prog) (wC.alloc (.cells (upTo t (pksOf q) got K L 3).cells 37)) .neq 32 x y (dstOf q) (dstOf q) (by kernel_rfl)
  generalize hU : (upTo t (pksOf q) got K L 3) = U at *
  go_wp2_with (first | (refine wpList_store_new rfl 37 _ _ rfl U.cells rfl rfl 37 _ rfl rfl U.cells_one ?_) | (refine wpList_load_row rfl 32 _ rfl wA.heap.size rfl 32 (dstOf q) (0, 0) _ f32 Yba.underlying32 rfl rfl ?_) | (refine wpList_load_row rfl 32 _ rfl (wA.heap.size + 1) rfl 32 (dstOf q) (0, 0) _ f33 Yba.underlying32 rfl rfl ?_))
  have g25 : (((wC.alloc (.cells U.cells 37)).alloc (.cells #[.int .i64 0, .int .i64 0, .int .i64 0] 35)).alloc (.cells #[.int .i64 0, .int .i64 0, .int .i64 0] 35)).heap[w.heap.size]? = some (.cells (tsrc t) 25 (0, 0)) := by
    rw [heap_alloc_old _ _ (by simp; omega), heap_alloc_old _ _ (by simp; omega)]; exact f25
  have g28 : (((wC.alloc (.cells U.cells 37)).alloc (.cells #[.int .i64 0, .int .i64 0, .int .i64 0] 35)).alloc (.cells #[.int .i64 0, .int .i64 0, .int .i64 0] 35)).heap[w.heap.size + 1]? = some (.cells (srcOf q) 28 (0, 0)) := by
    rw [heap_alloc_old _ _ (by simp; omega), heap_alloc_old _ _ (by simp; omega)]; exact f28
  have g37 : (((wC.alloc (.cells U.cells 37)).alloc (.cells #[.int .i64 0, .int .i64 0, .int .i64 0] 35)).alloc (.cells #[.int .i64 0, .int .i64 0, .int .i64 0] 35)).heap[wC.heap.size]? = some (.cells U.cells 37 (0, 0)) := by
    rw [heap_alloc_old _ _ (by simp; omega), heap_alloc_old _ _ (by simp)]; exact f37
  have gL : InvL wC.heap.size (((wC.alloc (.cells U.cells 37)).alloc (.cells #[.int .i64 0, .int .i64 0, .int .i64 0] 35)).alloc (.cells #[.int .i64 0, .int .i64 0, .int .i64 0] 35)) zeroT (((wC.alloc (.cells U.cells 37)).alloc (.cells #[.int .i64 0, .int .i64 0, .int .i64 0] 35)).alloc (.cells #[.int .i64 0, .int .i64 0, .int .i64 0] 35)) := by
    refine ⟨by simp, rfl, rfl, rfl, fun _ _ => rfl, ?_, ?_⟩
    · have := heap_alloc2_old (wC.alloc (.cells U.cells 37)) (.cells #[.int .i64 0, .int .i64 0, .int .i64 0] 35) (.cells #[.int .i64 0, .int .i64 0, .int .i64 0] 35)
      rw [show (wC.alloc (.cells U.cells 37)).heap.size = wC.heap.size + 1 by simp] at this
      exact this
    · have := heap_alloc2_new (wC.alloc (.cells U.cells 37)) (.cells #[.int .i64 0, .int .i64 0, .int .i64 0] 35) (.cells #[.int .i64 0, .int .i64 0, .int .i64 0] 35)
      rw [show (wC.alloc (.cells U.cells 37)).heap.size = wC.heap.size + 1 by simp] at this
      exact this
  have gsz : (((wC.alloc (.cells U.cells 37)).alloc (.cells #[.int .i64 0, .int .i64 0, .int .i64 0] 35)).alloc (.cells #[.int .i64 0, .int .i64 0, .int .i64 0] 35)).heap.size ≤ wC.heap.size + 3 := by simp
  have gB : Below w.heap.size w (((wC.alloc (.cells U.cells 37)).alloc (.cells #[.int .i64 0, .int .i64 0, .int .i64 0] 35)).alloc (.cells #[.int .i64 0, .int .i64 0, .int .i64 0] 35)) := (fB.out.alloc (by simp; omega) _).alloc (by simp; omega) _
  generalize (((wC.alloc (.cells U.cells 37)).alloc (.cells #[.int .i64 0, .int .i64 0, .int .i64 0] 35)).alloc (.cells #[.int .i64 0, .int .i64 0, .int .i64 0] 35)) = W5 at *
  have HC : Hid (W5.heap[w.heap.size]? = some (.cells (tsrc t) 25 (0, 0)) ∧ W5.heap[w.heap.size + 1]? = some (.cells (srcOf q) 28 (0, 0)) ∧ W5.heap[wC.heap.size]? = some (.cells U.cells 37 (0, 0))) := ⟨g25, g28, g37⟩
  have HL : Hid (InvL wC.heap.size W5 zeroT W5) := gL
  have HB : Hid (Below w.heap.size w W5) := gB
  have HU : Hid (upTo t (pksOf q) got K L 3 = U) := hU
  have HZ : Hid (W5.heap.size ≤ wC.heap.size + 3) := gsz
  have hsz : Hid (w.heap.size + 2 ≤ wC.heap.size) := (by omega : w.heap.size + 2 ≤ wC.heap.size)
  clear g25 g28 g37 gL gB f25 f28 f32 f33 f37 fsz fB nq gq hU hzu hzt hzd hz1 hz2 asz csz esz gsz
  go_loopg [17, 20] 3 (fun kx s17 s20 wr => ∃ i : Nat, s20 = .int .i64 i ∧ i ≤ 3 ∧ 3 - i ≤ kx ∧ s17 = .int .u8 (upTo t (pksOf q) got K L i).ops ∧ Hid (InvL wC.heap.size W5 (upTo t (pksOf q) got K L i) wr))
  case atStart => exact ⟨0, rfl, by omega, by omega, rfl, HL⟩
  case round =>
    obtain ⟨i, rfl, hi, hg2, rfl, HI⟩ := hrel
    by_cases hi3 : i < 3
    · obtain ⟨⟨q1, q2⟩, ⟨q3, q4⟩, ⟨q5, q6⟩, ⟨q7, q8⟩⟩ := HQ.out i hi3
      obtain ⟨⟨v1, v2⟩, ⟨v3, v4⟩⟩ := Ty.ok_at HT.out i
      have hs5 := hsz.out
      have m25 : ∀ o, wr.cell? ⟨w.heap.size, o, none⟩ = (tsrc t)[o]? := fun o => (HI.out.cell (by omega)).trans (Lib.cell_of_heap HC.out.1 o)
      have m28 : ∀ o, wr.cell? ⟨w.heap.size + 1, o, none⟩ = (srcOf q)[o]? := fun o => (HI.out.cell (by omega)).trans (Lib.cell_of_heap HC.out.2.1 o)
      obtain ⟨n0, n1, n2⟩ := tsrc_at t i hi3
      obtain ⟨t0, t1, t2, t3, t4⟩ := srcOf_at q i hi3
      obtain ⟨g1, n3⟩ := wp_at (upTo t (pksOf q) got K L i).p0 (upTo t (pksOf q) got K L i).p1 (upTo t (pksOf q) got K L i).p2 i hi3
      obtain ⟨g2, n4⟩ := wp_at (upTo t (pksOf q) got K L i).o0 (upTo t (pksOf q) got K L i).o1 (upTo t (pksOf q) got K L i).o2 i hi3
      have x0 := (m25 _).trans n0
      have x1 := (m25 _).trans n1
      have x2 := (m25 _).trans n2
      have y0 := (m28 _).trans t0
      have y1 := (m28 _).trans t1
      have y2 := (m28 _).trans t2
      have y3 := (m28 _).trans t3
      have y4 := (m28 _).trans t4
      have z1 : wr.cell? ⟨wC.heap.size + 1, i, none⟩ = some (.int .i64 g1) := (Lib.cell_of_heap HI.out.2.2.2.2.2.1 i).trans n3
      have z2 : wr.cell? ⟨wC.heap.size + 1 + 1, i, none⟩ = some (.int .i64 g2) := (Lib.cell_of_heap HI.out.2.2.2.2.2.2 i).trans n4
      have z3 : wr.frozen? ⟨wC.heap.size + 1, i, none⟩ = false := Lib.frozen_of_heap HI.out.2.2.2.2.2.1 i
      have z4 : wr.frozen? ⟨wC.heap.size + 1 + 1, i, none⟩ = false := Lib.frozen_of_heap HI.out.2.2.2.2.2.2 i
      have hi3' : (i : Int) < 3 := by omega
      have hi0 : (0 : Int) ≤ i := by omega
      clear m25 m28 n0 n1 n2 n3 n4 t0 t1 t2 t3 t4
      have HPK : Hid (pksOf q i = ⟨(q i).P, (q i).l, (q i).o % 4, (q i).r % 4, (q i).b⟩) := rfl
      generalize (q i).P = xp at *
      generalize (q i).l = xl at *
      generalize (q i).o = xo at *
      generalize (q i).r = xr at *
      generalize (q i).b = xb at *
      have po := pow_byte (xo % 4) (by omega) (by omega)
      have pr := pow_byte (xr % 4) (by omega) (by omega)
      have pi : (2 ^ i % 256 : Int) = 2 ^ i := pow_byte i (by omega) (by omega)
      by_cases c1 : hasB t.ops i = true
      · have k1 : (bits BinOp.and IntKind.u8 t.ops (2 ^ i % 256) == 0) = false := by
          rw [pi]; have := c1; simp only [hasB, Int.toNat_natCast] at this; simpa using this
        by_cases c2 : got = 0
        · have k2 : (got == 0) = true := by simp [c2]
          cases xb with
          | true =>
            have HN : Hid (cnt t ⟨xp, xl, xo % 4, xr % 4, true⟩ got K i = some (t.parts i, t.of i)) := (by simp [cnt, c1, c2] : cnt t ⟨xp, xl, xo % 4, xr % 4, true⟩ got K i = some (t.parts i, t.of i))
            clear c1 po pr pi c2
            generalize t.parts i = tp at *
            generalize t.of i = tf at *
            go_wp2_with fail
            all_goals go_roundg (3 - (i + 1))
            all_goals first
              | omega
              | (refine ⟨i + 1, by go_num, by omega, Nat.le_refl _, leaf_none (by rw [HPK.out]; exact out_none (h := xp) HN.out rfl (by omega)) HI.out⟩)
              | (refine ⟨i + 1, by go_num, by omega, Nat.le_refl _, leaf_some hi3 (by rw [HPK.out]; exact out_some (h := xp) HN.out rfl (by omega) (by omega) (by omega) (by omega)) HI.out⟩)
          | false =>
            have HN : Hid (cnt t ⟨xp, xl, xo % 4, xr % 4, false⟩ got K i = some (t.parts i, t.of i)) := (by simp [cnt, c1, c2] : cnt t ⟨xp, xl, xo % 4, xr % 4, false⟩ got K i = some (t.parts i, t.of i))
            clear c1 po pr pi c2
            generalize t.parts i = tp at *
            generalize t.of i = tf at *
            go_wp2_with fail
            all_goals go_roundg (3 - (i + 1))
            all_goals first
              | omega
              | (refine ⟨i + 1, by go_num, by omega, Nat.le_refl _, leaf_none (by rw [HPK.out]; exact out_none (h := xl) HN.out rfl (by omega)) HI.out⟩)
              | (refine ⟨i + 1, by go_num, by omega, Nat.le_refl _, leaf_some hi3 (by rw [HPK.out]; exact out_some (h := xl) HN.out rfl (by omega) (by omega) (by omega) (by omega)) HI.out⟩)
        · have k2 : (got == 0) = false := by simp [c2]
          by_cases c3 : hasB got (xo % 4) = true
          · have k3 : (bits BinOp.and IntKind.u8 got (2 ^ (xo % 4).toNat % 256) != 0) = true := by rw [po]; exact c3
            cases xb with
            | true =>
              have HN : Hid (cnt t ⟨xp, xl, xo % 4, xr % 4, true⟩ got K i = some (t.parts i + K, t.of i + K)) := (by simp [cnt, c1, c2, c3] : cnt t ⟨xp, xl, xo % 4, xr % 4, true⟩ got K i = some (t.parts i + K, t.of i + K))
              clear c1 po pr pi c2 c3
              generalize t.parts i = tp at *
              generalize t.of i = tf at *
              go_wp2_with fail
              all_goals go_roundg (3 - (i + 1))
              all_goals first
                | omega
                | (refine ⟨i + 1, by go_num, by omega, Nat.le_refl _, leaf_none (by rw [HPK.out]; exact out_none (h := xp) HN.out rfl (by omega)) HI.out⟩)
                | (refine ⟨i + 1, by go_num, by omega, Nat.le_refl _, leaf_some hi3 (by rw [HPK.out]; exact out_some (h := xp) HN.out rfl (by omega) (by omega) (by omega) (by omega)) HI.out⟩)
            | false =>
              have HN : Hid (cnt t ⟨xp, xl, xo % 4, xr % 4, false⟩ got K i = some (t.parts i + K, t.of i + K)) := (by simp [cnt, c1, c2, c3] : cnt t ⟨xp, xl, xo % 4, xr % 4, false⟩ got K i = some (t.parts i + K, t.of i + K))
              clear c1 po pr pi c2 c3
              generalize t.parts i = tp at *
              generalize t.of i = tf at *
              go_wp2_with fail
              all_goals go_roundg (3 - (i + 1))
              all_goals first
                | omega
                | (refine ⟨i + 1, by go_num, by omega, Nat.le_refl _, leaf_none (by rw [HPK.out]; exact out_none (h := xl) HN.out rfl (by omega)) HI.out⟩)
                | (refine ⟨i + 1, by go_num, by omega, Nat.le_refl _, leaf_some hi3 (by rw [HPK.out]; exact out_some (h := xl) HN.out rfl (by omega) (by omega) (by omega) (by omega)) HI.out⟩)
          · have k3 : (bits BinOp.and IntKind.u8 got (2 ^ (xo % 4).toNat % 256) != 0) = false := by rw [po]; exact Bool.eq_false_iff.2 c3
            by_cases c4 : hasB got (xr % 4) = true
            · have k4 : (bits BinOp.and IntKind.u8 got (2 ^ (xr % 4).toNat % 256) != 0) = true := by rw [pr]; exact c4
              cases xb with
              | true =>
                have HN : Hid (cnt t ⟨xp, xl, xo % 4, xr % 4, true⟩ got K i = some (t.parts i + K, t.of i)) := (by simp [cnt, c1, c2, c3, c4] : cnt t ⟨xp, xl, xo % 4, xr % 4, true⟩ got K i = some (t.parts i + K, t.of i))
                clear c1 po pr pi c2 c3 c4
                generalize t.parts i = tp at *
                generalize t.of i = tf at *
                go_wp2_with fail
                all_goals go_roundg (3 - (i + 1))
                all_goals first
                  | omega
                  | (refine ⟨i + 1, by go_num, by omega, Nat.le_refl _, leaf_none (by rw [HPK.out]; exact out_none (h := xp) HN.out rfl (by omega)) HI.out⟩)
                  | (refine ⟨i + 1, by go_num, by omega, Nat.le_refl _, leaf_some hi3 (by rw [HPK.out]; exact out_some (h := xp) HN.out rfl (by omega) (by omega) (by omega) (by omega)) HI.out⟩)
              | false =>
                have HN : Hid (cnt t ⟨xp, xl, xo % 4, xr % 4, false⟩ got K i = some (t.parts i + K, t.of i)) := (by simp [cnt, c1, c2, c3, c4] : cnt t ⟨xp, xl, xo % 4, xr % 4, false⟩ got K i = some (t.parts i + K, t.of i))
                clear c1 po pr pi c2 c3 c4
                generalize t.parts i = tp at *
                generalize t.of i = tf at *
                go_wp2_with fail
                all_goals go_roundg (3 - (i + 1))
                all_goals first
                  | omega
                  | (refine ⟨i + 1, by go_num, by omega, Nat.le_refl _, leaf_none (by rw [HPK.out]; exact out_none (h := xl) HN.out rfl (by omega)) HI.out⟩)
                  | (refine ⟨i + 1, by go_num, by omega, Nat.le_refl _, leaf_some hi3 (by rw [HPK.out]; exact out_some (h := xl) HN.out rfl (by omega) (by omega) (by omega) (by omega)) HI.out⟩)
            · have k4 : (bits BinOp.and IntKind.u8 got (2 ^ (xr % 4).toNat % 256) != 0) = false := by rw [pr]; exact Bool.eq_false_iff.2 c4
              have HO : Hid (outc t (pksOf q i) got K L i = none) := out_gone (by rw [HPK.out]; simp [cnt, c1, c2, c3, c4])
              clear c1 c2 c3 c4 po pr pi
              go_wp2_with fail
              all_goals go_roundg (3 - (i + 1))
              case measure => omega
              case rel =>
                refine ⟨i + 1, by go_num, by omega, Nat.le_refl _, ?_⟩
                exact leaf_none HO.out HI.out
      · have k1 : (bits BinOp.and IntKind.u8 t.ops (2 ^ i % 256) == 0) = true := by
          rw [pi]; have := c1; simp only [hasB, Int.toNat_natCast] at this; simpa using this
        have HO : Hid (outc t (pksOf q i) got K L i = none) := out_gone (by simp [cnt, c1])
        clear c1 po pr pi
        go_wp2_with fail
        all_goals go_roundg (3 - (i + 1))
        case measure => omega
        case rel =>
          refine ⟨i + 1, by go_num, by omega, Nat.le_refl _, ?_⟩
          exact leaf_none HO.out HI.out
    · have e3 : i = 3 := by omega
      subst e3
      have hs5 := hsz.out
      obtain ⟨l1, l2, l3, l4, l5, l6, l7⟩ := HI.out
      have HBF : Hid (Below w.heap.size w wr) := HB.out.trans (HI.out.old (by omega) HZ.out)
      have r0 : wr.heap[wC.heap.size]? = some (.cells U.cells 37 (0, 0)) := (l5 _ (by omega)).trans HC.out.2.2
      rw [HU.out] at *
      have x0 : wr.cell? ⟨wC.heap.size, 0, none⟩ = some (.int .u8 U.ops) := (Lib.cell_of_heap r0 0).trans rfl
      have x1 : wr.cell? ⟨wC.heap.size, 1, none⟩ = some (.int .i64 U.p0) := (Lib.cell_of_heap r0 1).trans rfl
      have x2 : wr.cell? ⟨wC.heap.size, 2, none⟩ = some (.int .i64 U.p1) := (Lib.cell_of_heap r0 2).trans rfl
      have x3 : wr.cell? ⟨wC.heap.size, 3, none⟩ = some (.int .i64 U.p2) := (Lib.cell_of_heap r0 3).trans rfl
      have x4 : wr.cell? ⟨wC.heap.size, 4, none⟩ = some (.int .i64 U.o0) := (Lib.cell_of_heap r0 4).trans rfl
      have x5 : wr.cell? ⟨wC.heap.size, 5, none⟩ = some (.int .i64 U.o1) := (Lib.cell_of_heap r0 5).trans rfl
      have x6 : wr.cell? ⟨wC.heap.size, 6, none⟩ = some (.int .i64 U.o2) := (Lib.cell_of_heap r0 6).trans rfl
      have y1 : wr.cell? ⟨wC.heap.size + 1, 0, none⟩ = some (.int .i64 U.p0) := (Lib.cell_of_heap l6 0).trans rfl
      have y2 : wr.cell? ⟨wC.heap.size + 1, 1, none⟩ = some (.int .i64 U.p1) := (Lib.cell_of_heap l6 1).trans rfl
      have y3 : wr.cell? ⟨wC.heap.size + 1, 2, none⟩ = some (.int .i64 U.p2) := (Lib.cell_of_heap l6 2).trans rfl
      have y4 : wr.cell? ⟨wC.heap.size + 1 + 1, 0, none⟩ = some (.int .i64 U.o0) := (Lib.cell_of_heap l7 0).trans rfl
      have y5 : wr.cell? ⟨wC.heap.size + 1 + 1, 1, none⟩ = some (.int .i64 U.o1) := (Lib.cell_of_heap l7 1).trans rfl
      have y6 : wr.cell? ⟨wC.heap.size + 1 + 1, 2, none⟩ = some (.int .i64 U.o2) := (Lib.cell_of_heap l7 2).trans rfl
      have e35 := eq35
      have g35 := fun (x y : Operand) (xs ys : Array Value) => run_eqGuard_agg (P := Yba.prog) wr .eql 35 x y xs ys (by kernel_rfl)
      clear l1 l2 l3 l4 l5 l6 l7 r0 HI HC HL HB
      go_wp2_with fail
      go_ret
      exact ⟨rfl, HBF.out⟩
end Go.Proofs.Ybulkdczq
