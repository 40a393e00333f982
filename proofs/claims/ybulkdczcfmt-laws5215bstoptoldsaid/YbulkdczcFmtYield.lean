/-
  THE WALKS of the closures (7, 9, 10): 'got = append(got, v)'.
-/
import Derived.Test.YbulkdczcFmtAll
namespace Go.Proofs.YbulkdczcFmt
open Go.RowKit

/-- Behind some calls of the closure: its variable (block gb) holds xs, in a row from block N on; below N all else is as it was in w0. -/
def Inv (N gb : Nat) (w0 : World) (xs : List Int) (w : World) : Prop :=
  gb < N ∧ N ≤ w.heap.size ∧ w.os = w0.os ∧ w.tape = w0.tape ∧ w.output = w0.output ∧ (∀ k, k < N → k ≠ gb → w.heap[k]? = w0.heap[k]?) ∧
  ∃ v, w.heap[gb]? = some (.cells #[v] 22 (0, 0)) ∧ w.ownsRow N 2 1 v xs.length (ints xs)

theorem Inv.drewN {N gb : Nat} {w0 w : World} {xs : List Int} (h : Inv N gb w0 xs w) (n : Nat) : Inv N gb w0 xs (w.drewN n) := h

theorem Inv.cell {N gb : Nat} {w0 w : World} {xs : List Int} (h : Inv N gb w0 xs w) {k o : Nat} (hk : k < N) (hne : k ≠ gb) : w.cell? ⟨k, o, none⟩ = w0.cell? ⟨k, o, none⟩ :=
  World.cell?_of_block (h.2.2.2.2.2.1 k hk hne)

theorem Inv.below {N gb B : Nat} {w0 w : World} {xs : List Int} (h : Inv N gb w0 xs w) (hB : B ≤ gb) (hs : w0.heap.size ≤ w.heap.size) : Below B w0 w :=
  ⟨h.2.2.1, h.2.2.2.1, h.2.2.2.2.1, hs, fun k hk => h.2.2.2.2.2.1 k (by have := h.1; omega) (by omega)⟩

theorem snoc_ints (xs : List Int) (x : Int) : ints (xs ++ [x]) = ints xs ++ [.int .i64 x] := by simp [ints]

set_option maxHeartbeats 1000000 in
set_option maxRecDepth 100000 in
theorem clos7 (N gb : Nat) (w0 : World) (xs : List Int) (x : Int) (w : World) (h : Inv N gb w0 xs w) (hlen : xs.length ≤ 2000) :
    Calls Ybaf.prog 7 #[.int .i64 x, .pointer (some ⟨gb, 0, none⟩)] w fun e w' => e = .returned (.bool true) ∧ Inv N gb w0 (xs ++ [x]) w' := by
  obtain ⟨i0, hi, hz0, hz1, hz2⟩ := info2_ex
  obtain ⟨hgN, hNw, hos, htape, hout, hkeep, v, hgb, hown⟩ := h
  have HK : Hid (w.os = w0.os ∧ w.tape = w0.tape ∧ w.output = w0.output ∧ ∀ k, k < N → k ≠ gb → w.heap[k]? = w0.heap[k]?) := ⟨hos, htape, hout, hkeep⟩
  have HGB : Hid (w.heap[gb]? = some (.cells #[v] 22 (0, 0))) := hgb
  have HO : Hid (w.ownsRow N 2 1 v xs.length (ints xs)) := hown
  have c0 : w.cell? ⟨gb, 0, none⟩ = some v := by rw [Lib.cell_of_heap hgb]; rfl
  clear hos htape hout hkeep hgb hown
  go_enter Ybaf.func7, Ybaf.ntmps7
  go_wp2_with (at_builtin; refine wpList_append_own _ rfl _ _ 22 rfl N 2 i0 (.int .i64 0) 1 8 Ybaf.underlying22 hi hz0 hz1 hz2 rfl (by decide) v xs.length (ints xs) rfl ?q0 ⟨w.heap.size, 0, none⟩ 1 1 [.int .i64 x] rfl ?q1 ?q2 ?q3 ?q4 ?q5 ?q6 ?_)
  case q0 => exact HO.out.alloc _
  case q1 => rfl
  case q2 => exact cell_one_new _ _ _
  case q3 => intro u hu; simp at hu; subst hu; rfl
  case q4 => unfold maxLen; omega
  case q5 => omega
  case q6 => simp; omega
  intro v' w2 hown' hgrow _
  have hne : v.ownBlock ≠ some gb := fun e => by have := (HO.out.lt gb e).1; omega
  have hgb2 : w2.heap[gb]? = some (.cells #[v] 22 (0, 0)) := by
    rw [hgrow.block gb (by simp; omega) (fun e => hne e.symm), Lib.alloc_old w _ gb (by omega)]; exact HGB.out
  have hk2 : w2.os = w0.os ∧ w2.tape = w0.tape ∧ w2.output = w0.output ∧ ∀ k, k < N → k ≠ gb → w2.heap[k]? = w0.heap[k]? := by
    refine ⟨hgrow.os.trans HK.out.1, hgrow.tape.trans HK.out.2.1, hgrow.output.trans HK.out.2.2.1, fun k hk hkn => ?_⟩
    rw [hgrow.block k (by simp; omega) (fun e => by have := (HO.out.lt k e.symm).1; omega), Lib.alloc_old w _ k (by omega)]
    exact HK.out.2.2.2 k hk hkn
  have hN2 : N ≤ w2.heap.size := by have := hgrow.size; simp at this; omega
  have d0 : w2.cell? ⟨gb, 0, none⟩ = some v := by rw [Lib.cell_of_heap hgb2]; rfl
  have f0 : w2.frozen? ⟨gb, 0, none⟩ = false := Lib.frozen_of_heap hgb2 0
  obtain ⟨g, cap, hv⟩ : ∃ g cap, v' = .slice (some ⟨g, 0, none⟩) (xs.length + 1) cap := by
    rcases hown'.2 with ⟨_, h0⟩ | ⟨g, cap, cur, hv, _⟩
    · omega
    · exact ⟨g, cap, hv⟩
  subst hv
  have HGB2 : Hid (w2.heap[gb]? = some (.cells #[v] 22 (0, 0))) := hgb2
  have HK2 : Hid (w2.os = w0.os ∧ w2.tape = w0.tape ∧ w2.output = w0.output ∧ ∀ k, k < N → k ≠ gb → w2.heap[k]? = w0.heap[k]?) := hk2
  have HO2 : Hid (w2.ownsRow N 2 1 (.slice (some ⟨g, 0, none⟩) (xs.length + 1) cap) (xs.length + 1) (ints xs ++ [.int .i64 x])) := hown'
  clear hgb2 hk2 hown' hgrow
  go_wp2_with fail
  go_ret
  refine ⟨rfl, ?_⟩
  refine ⟨hgN, by simpa [World.setCell] using hN2, HK2.out.1, HK2.out.2.1, HK2.out.2.2.1, fun k hk hkn => ?_, .slice (some ⟨g, 0, none⟩) (xs.length + 1) cap, ?_, ?_⟩
  · rw [Below.heap_setCell _ _ _ _ hkn]; exact HK2.out.2.2.2 k hk hkn
  · have := HGB2.out
    simp [World.setCell, Array.getElem?_modify, this]
  · rw [List.length_append, List.length_singleton, snoc_ints]
    exact ownsRow_setCell_below HO2.out (a := ⟨gb, 0, none⟩) hgN _

set_option maxHeartbeats 1000000 in
set_option maxRecDepth 100000 in
theorem clos9 (N gb : Nat) (w0 : World) (xs : List Int) (x : Int) (w : World) (h : Inv N gb w0 xs w) (hlen : xs.length ≤ 2000) :
    Calls Ybaf.prog 9 #[.int .i64 x, .pointer (some ⟨gb, 0, none⟩)] w fun e w' => e = .returned (.bool true) ∧ Inv N gb w0 (xs ++ [x]) w' := by
  obtain ⟨i0, hi, hz0, hz1, hz2⟩ := info2_ex
  obtain ⟨hgN, hNw, hos, htape, hout, hkeep, v, hgb, hown⟩ := h
  have HK : Hid (w.os = w0.os ∧ w.tape = w0.tape ∧ w.output = w0.output ∧ ∀ k, k < N → k ≠ gb → w.heap[k]? = w0.heap[k]?) := ⟨hos, htape, hout, hkeep⟩
  have HGB : Hid (w.heap[gb]? = some (.cells #[v] 22 (0, 0))) := hgb
  have HO : Hid (w.ownsRow N 2 1 v xs.length (ints xs)) := hown
  have c0 : w.cell? ⟨gb, 0, none⟩ = some v := by rw [Lib.cell_of_heap hgb]; rfl
  clear hos htape hout hkeep hgb hown
  go_enter Ybaf.func9, Ybaf.ntmps9
  go_wp2_with (at_builtin; refine wpList_append_own _ rfl _ _ 22 rfl N 2 i0 (.int .i64 0) 1 8 Ybaf.underlying22 hi hz0 hz1 hz2 rfl (by decide) v xs.length (ints xs) rfl ?q0 ⟨w.heap.size, 0, none⟩ 1 1 [.int .i64 x] rfl ?q1 ?q2 ?q3 ?q4 ?q5 ?q6 ?_)
  case q0 => exact HO.out.alloc _
  case q1 => rfl
  case q2 => exact cell_one_new _ _ _
  case q3 => intro u hu; simp at hu; subst hu; rfl
  case q4 => unfold maxLen; omega
  case q5 => omega
  case q6 => simp; omega
  intro v' w2 hown' hgrow _
  have hne : v.ownBlock ≠ some gb := fun e => by have := (HO.out.lt gb e).1; omega
  have hgb2 : w2.heap[gb]? = some (.cells #[v] 22 (0, 0)) := by
    rw [hgrow.block gb (by simp; omega) (fun e => hne e.symm), Lib.alloc_old w _ gb (by omega)]; exact HGB.out
  have hk2 : w2.os = w0.os ∧ w2.tape = w0.tape ∧ w2.output = w0.output ∧ ∀ k, k < N → k ≠ gb → w2.heap[k]? = w0.heap[k]? := by
    refine ⟨hgrow.os.trans HK.out.1, hgrow.tape.trans HK.out.2.1, hgrow.output.trans HK.out.2.2.1, fun k hk hkn => ?_⟩
    rw [hgrow.block k (by simp; omega) (fun e => by have := (HO.out.lt k e.symm).1; omega), Lib.alloc_old w _ k (by omega)]
    exact HK.out.2.2.2 k hk hkn
  have hN2 : N ≤ w2.heap.size := by have := hgrow.size; simp at this; omega
  have d0 : w2.cell? ⟨gb, 0, none⟩ = some v := by rw [Lib.cell_of_heap hgb2]; rfl
  have f0 : w2.frozen? ⟨gb, 0, none⟩ = false := Lib.frozen_of_heap hgb2 0
  obtain ⟨g, cap, hv⟩ : ∃ g cap, v' = .slice (some ⟨g, 0, none⟩) (xs.length + 1) cap := by
    rcases hown'.2 with ⟨_, h0⟩ | ⟨g, cap, cur, hv, _⟩
    · omega
    · exact ⟨g, cap, hv⟩
  subst hv
  have HGB2 : Hid (w2.heap[gb]? = some (.cells #[v] 22 (0, 0))) := hgb2
  have HK2 : Hid (w2.os = w0.os ∧ w2.tape = w0.tape ∧ w2.output = w0.output ∧ ∀ k, k < N → k ≠ gb → w2.heap[k]? = w0.heap[k]?) := hk2
  have HO2 : Hid (w2.ownsRow N 2 1 (.slice (some ⟨g, 0, none⟩) (xs.length + 1) cap) (xs.length + 1) (ints xs ++ [.int .i64 x])) := hown'
  clear hgb2 hk2 hown' hgrow
  go_wp2_with fail
  go_ret
  refine ⟨rfl, ?_⟩
  refine ⟨hgN, by simpa [World.setCell] using hN2, HK2.out.1, HK2.out.2.1, HK2.out.2.2.1, fun k hk hkn => ?_, .slice (some ⟨g, 0, none⟩) (xs.length + 1) cap, ?_, ?_⟩
  · rw [Below.heap_setCell _ _ _ _ hkn]; exact HK2.out.2.2.2 k hk hkn
  · have := HGB2.out
    simp [World.setCell, Array.getElem?_modify, this]
  · rw [List.length_append, List.length_singleton, snoc_ints]
    exact ownsRow_setCell_below HO2.out (a := ⟨gb, 0, none⟩) hgN _

theorem ret_bool {a b : Bool} (h : a = b) : Ending.returned (.bool a) = .returned (.bool b) := by rw [h]

set_option maxHeartbeats 1000000 in
set_option maxRecDepth 100000 in
theorem clos10 (N gb : Nat) (w0 : World) (xs : List Int) (x : Int) (w : World) (h : Inv N gb w0 xs w) (hlen : xs.length ≤ 2000) (kb k : Nat) (hkb : kb < N) (hkg : kb ≠ gb) (hkc : w0.cell? ⟨kb, 0, none⟩ = some (.int .i64 k)) :
    Calls Ybaf.prog 10 #[.int .i64 x, .pointer (some ⟨gb, 0, none⟩), .pointer (some ⟨kb, 0, none⟩)] w fun e w' => e = .returned (.bool (decide (xs.length + 1 ≤ k))) ∧ Inv N gb w0 (xs ++ [x]) w' := by
  obtain ⟨i0, hi, hz0, hz1, hz2⟩ := info2_ex
  obtain ⟨hgN, hNw, hos, htape, hout, hkeep, v, hgb, hown⟩ := h
  have HK : Hid (w.os = w0.os ∧ w.tape = w0.tape ∧ w.output = w0.output ∧ ∀ k, k < N → k ≠ gb → w.heap[k]? = w0.heap[k]?) := ⟨hos, htape, hout, hkeep⟩
  have HGB : Hid (w.heap[gb]? = some (.cells #[v] 22 (0, 0))) := hgb
  have HO : Hid (w.ownsRow N 2 1 v xs.length (ints xs)) := hown
  have c0 : w.cell? ⟨gb, 0, none⟩ = some v := by rw [Lib.cell_of_heap hgb]; rfl
  clear hos htape hout hkeep hgb hown
  go_enter Ybaf.func10, Ybaf.ntmps10
  go_wp2_with (at_builtin; refine wpList_append_own _ rfl _ _ 22 rfl N 2 i0 (.int .i64 0) 1 8 Ybaf.underlying22 hi hz0 hz1 hz2 rfl (by decide) v xs.length (ints xs) rfl ?q0 ⟨w.heap.size, 0, none⟩ 1 1 [.int .i64 x] rfl ?q1 ?q2 ?q3 ?q4 ?q5 ?q6 ?_)
  case q0 => exact HO.out.alloc _
  case q1 => rfl
  case q2 => exact cell_one_new _ _ _
  case q3 => intro u hu; simp at hu; subst hu; rfl
  case q4 => unfold maxLen; omega
  case q5 => omega
  case q6 => simp; omega
  intro v' w2 hown' hgrow _
  have hne : v.ownBlock ≠ some gb := fun e => by have := (HO.out.lt gb e).1; omega
  have hgb2 : w2.heap[gb]? = some (.cells #[v] 22 (0, 0)) := by
    rw [hgrow.block gb (by simp; omega) (fun e => hne e.symm), Lib.alloc_old w _ gb (by omega)]; exact HGB.out
  have hk2 : w2.os = w0.os ∧ w2.tape = w0.tape ∧ w2.output = w0.output ∧ ∀ k, k < N → k ≠ gb → w2.heap[k]? = w0.heap[k]? := by
    refine ⟨hgrow.os.trans HK.out.1, hgrow.tape.trans HK.out.2.1, hgrow.output.trans HK.out.2.2.1, fun k hk hkn => ?_⟩
    rw [hgrow.block k (by simp; omega) (fun e => by have := (HO.out.lt k e.symm).1; omega), Lib.alloc_old w _ k (by omega)]
    exact HK.out.2.2.2 k hk hkn
  have hN2 : N ≤ w2.heap.size := by have := hgrow.size; simp at this; omega
  have d0 : w2.cell? ⟨gb, 0, none⟩ = some v := by rw [Lib.cell_of_heap hgb2]; rfl
  have f0 : w2.frozen? ⟨gb, 0, none⟩ = false := Lib.frozen_of_heap hgb2 0
  obtain ⟨g, cap, hv⟩ : ∃ g cap, v' = .slice (some ⟨g, 0, none⟩) (xs.length + 1) cap := by
    rcases hown'.2 with ⟨_, h0⟩ | ⟨g, cap, cur, hv, _⟩
    · omega
    · exact ⟨g, cap, hv⟩
  subst hv
  have HGB2 : Hid (w2.heap[gb]? = some (.cells #[v] 22 (0, 0))) := hgb2
  have HK2 : Hid (w2.os = w0.os ∧ w2.tape = w0.tape ∧ w2.output = w0.output ∧ ∀ k, k < N → k ≠ gb → w2.heap[k]? = w0.heap[k]?) := hk2
  have HO2 : Hid (w2.ownsRow N 2 1 (.slice (some ⟨g, 0, none⟩) (xs.length + 1) cap) (xs.length + 1) (ints xs ++ [.int .i64 x])) := hown'
  have kc : w2.cell? ⟨kb, 0, none⟩ = some (.int .i64 k) := (World.cell?_of_block (w := w0) (hk2.2.2.2 kb hkb hkg)).trans hkc
  clear hkc
  clear hgb2 hk2 hown' hgrow
  go_wp2_with fail
  go_ret
  refine ⟨ret_bool (by rw [decide_eq_decide]; omega), ?_⟩
  refine ⟨hgN, by simpa [World.setCell] using hN2, HK2.out.1, HK2.out.2.1, HK2.out.2.2.1, fun k hk hkn => ?_, .slice (some ⟨g, 0, none⟩) (xs.length + 1) cap, ?_, ?_⟩
  · rw [Below.heap_setCell _ _ _ _ hkn]; exact HK2.out.2.2.2 k hk hkn
  · have := HGB2.out
    simp [World.setCell, Array.getElem?_modify, this]
  · rw [List.length_append, List.length_singleton, snoc_ints]
    exact ownsRow_setCell_below HO2.out (a := ⟨gb, 0, none⟩) hgN _

end Go.Proofs.YbulkdczcFmt
