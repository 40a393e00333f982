/-
  THE WALKS of Form (9), zzs5216cst.Quorums (37).
-/
import Derived.Test.YbulkdczqFmtForm
namespace Go.Proofs.YbulkdczqFmt
open Go.RowKit

/-- What Form answers. -/
def Formed (n : Nat) (H : Nat → Bool) (q : Nat) (w : World) (e : Ending) (w' : World) : Prop :=
  Below w.heap.size w w' ∧
      ((H q = false ∧ e = .returned (.tuple #[.agg #[.int .i64 0, .slice none 0 0], .bool false])) ∨
       (H q = true ∧ ∃ g c', e = .returned (.tuple #[setV n g c', .bool true]) ∧ w.heap.size ≤ g ∧ Word w' g (greedy H n q)))

set_option maxHeartbeats 1000000 in
theorem form_any (sb n : Nat) (al bl : List Nat) (hL : Lists al bl) (op : Bool) (b c q : Nat) (hq64 : q < 2 ^ 64) (w : World) (hS : St sb n al bl w) (hW : Word w b q) :
    Calls Ybaf.prog 9 #[stV sb, .int .i64 (if op then 1 else 0), setV n b c] w (Formed n (hq (pick op al bl)) q w) := by
  have HP : Hid (∀ w', Below w.heap.size w w' → Calls Ybaf.prog 11 #[stV sb, .int .i64 (if op then 1 else 0), setV n b c, .slice none 0 0] w' (Formed n (hq (pick op al bl)) q w')) := fun w' hb =>
    prefer_any sb n al bl hL op b c q hq64 w' (hS.below hb (Nat.le_refl _)) (hW.below hb hW.lt)
  clear hS hW hL
  generalize hq (pick op al bl) = H at *
  generalize (if op = true then (1 : Int) else 0) = oi at *
  have BL2 : Hid (∀ o o2, Below w.heap.size w ((w.alloc o).alloc o2)) := fun o o2 => (((Below.refl _ w).alloc (Nat.le_refl _) _).alloc (by simp) _)
  unfold stV setV at *
  go_enter Ybaf.func9, Ybaf.ntmps9
  go_wp2_with fail
  refine (HP.out _ (BL2.out _ _)).mono ?_
  intro e w2 hF
  have hb2 := hF.1
  have HR : Hid (w2.heap[w.heap.size + 1]? = some (.cells #[.int .i64 0, .slice none 0 0] 36 (0, 0))) := Below.keeps hb2 (by simp) (heap_alloc2_new w _ _)
  have HB2 : Hid (Below w.heap.size w w2) := (BL2.out _ _).trans (hb2.mono (by simp; omega))
  have r0 : w2.cell? ⟨w.heap.size + 1, 0, none⟩ = some (.int .i64 0) := (Lib.cell_of_heap HR.out 0).trans rfl
  have r1 : w2.cell? ⟨w.heap.size + 1, 1, none⟩ = some (.slice none 0 0) := (Lib.cell_of_heap HR.out 1).trans rfl
  have f0 : w2.frozen? ⟨w.heap.size + 1, 0, none⟩ = false := Lib.frozen_of_heap HR.out 0
  have f1 : w2.frozen? ⟨w.heap.size + 1, 1, none⟩ = false := Lib.frozen_of_heap HR.out 1
  rcases hF.2 with ⟨hH, rfl⟩ | ⟨hH, g, c', rfl, hg, hw⟩
  · clear hb2 hF
    go_wp2_with fail
    refine bodyPost_ret (results_cell_tmp (p := 6) (r := 7) rfl _ _ (w.heap.size + 1) 36 _ _ _ rfl rfl (two_cells HR.out)) rfl ?_
    exact ⟨(HB2.out.setCell (p := ⟨w.heap.size + 1, 0, none⟩) (by simp) _).setCell (p := ⟨w.heap.size + 1, 1, none⟩) (by simp) _, Or.inl ⟨hH, rfl⟩⟩
  · have HWd : Hid (Word w2 g (greedy H n q)) := hw
    have hg2 : w.heap.size + 2 ≤ g := by simpa using hg
    clear hb2 hF hw hg
    unfold setV
    go_wp2_with fail
    refine bodyPost_ret (results_cell_tmp (p := 6) (r := 7) rfl _ _ (w.heap.size + 1) 36 _ _ _ rfl rfl (two_cells HR.out)) rfl ?_
    exact ⟨(HB2.out.setCell (p := ⟨w.heap.size + 1, 0, none⟩) (by simp) _).setCell (p := ⟨w.heap.size + 1, 1, none⟩) (by simp) _, Or.inr ⟨hH, g, c', rfl, by omega, Word.other (Word.other HWd.out (by omega)) (by omega)⟩⟩

theorem info32 : (Ybaf.prog.info? 32).map (fun i => (i.zero, i.size, i.bytes)) = some (some (.int .i64 0), 1, 8) := by kernel_rfl

theorem set_four {w : World} {g t : Nat} {v0 v1 v2 v3 x : Value} (h : w.heap[g]? = some (.cells #[v0, v1, v2, v3] t (0, 0))) : (w.setCell ⟨g, 3, none⟩ x).heap[g]? = some (.cells #[v0, v1, v2, x] t (0, 0)) := by
  simp [World.setCell, Array.getElem?_modify, h]

set_option maxHeartbeats 1000000 in
theorem quorums_any (sb n la lb : Nat) (aa ba : Option Addr) (ca cb : Nat) (w : World) (h : w.heap[sb]? = some (.cells #[.int .i64 n, .slice aa la ca, .slice ba lb cb, .slice none 0 0] 31 (0, 0))) :
    Calls Ybaf.prog 37 #[.pointer (some ⟨sb, 0, none⟩), .int .i64 0] w fun e w' => ∃ ib nb g cap, e = .returned (.func (.func 39) #[] #[.pointer (some ⟨ib, 0, none⟩), .pointer (some ⟨nb, 0, none⟩)]) ∧
      w'.heap[ib]? = some (.cells #[.slice aa la ca] 25 (0, 0)) ∧ w'.heap[nb]? = some (.cells #[.int .i64 n] 3 (0, 0)) ∧ w.heap.size ≤ ib ∧ w.heap.size ≤ nb ∧ w.heap.size ≤ g ∧
      w'.heap[sb]? = some (.cells #[.int .i64 n, .slice aa la ca, .slice ba lb cb, .slice (some ⟨g, 0, none⟩) 1 cap] 31 (0, 0)) ∧ w'.cell? ⟨g, 0, none⟩ = some (.int .i64 0) ∧
      w'.os = w.os ∧ w'.tape = w.tape ∧ w'.output = w.output ∧ w.heap.size ≤ w'.heap.size ∧ ∀ k, k < w.heap.size → k ≠ sb → w'.heap[k]? = w.heap[k]? := by
  obtain ⟨i0, hi0, hz0, hz1, hz2⟩ := info_parts info32
  have lsb := (Array.getElem?_eq_some_iff.1 h).1
  have HS : Hid (w.heap[sb]? = some (.cells #[.int .i64 n, .slice aa la ca, .slice ba lb cb, .slice none 0 0] 31 (0, 0))) := h
  have c0 : w.cell? ⟨sb, 0, none⟩ = some (.int .i64 n) := (Lib.cell_of_heap h 0).trans rfl
  have c3 : w.cell? ⟨sb, 3, none⟩ = some (.slice none 0 0) := (Lib.cell_of_heap h 3).trans rfl
  have f3 : w.frozen? ⟨sb, 3, none⟩ = false := Lib.frozen_of_heap h 3
  clear h
  go_enter Ybaf.func37, Ybaf.ntmps37
  go_wp2_with (at_builtin; refine wpList_append_lies _ rfl _ _ 29 rfl (w.heap.size + 1) 32 i0 (.int .i64 0) 1 8 Ybaf.underlying29 hi0 hz0 hz1 hz2 rfl (by omega) (.slice none 0 0) 0 [] rfl (World.ownsRow_nil _ _ _ _) ⟨w.heap.size, 0, none⟩ 1 1 [.int .i64 0] rfl rfl (World.news_of_block (cs := #[.int .i64 0]) (t := 32) (fr := (0, 0)) (heap_alloc_new w _)) (by simp [Value.oneCell']) (by omega) (by unfold maxLen; omega) (by omega) (by simp) (w.heap.size + 1) (by simp) ?_)
  intro g cap w1 hown hgrow hat hlt
  have HS1 : Hid (w1.heap[sb]? = some (.cells #[.int .i64 n, .slice aa la ca, .slice ba lb cb, .slice none 0 0] 31 (0, 0))) := (hgrow.block sb (by simp; omega) (by simp [Value.ownBlock])).trans ((heap_alloc_old w _ lsb).trans HS.out)
  have HS2 : Hid ((w1.setCell ⟨sb, 3, none⟩ (.slice (some ⟨g, 0, none⟩) 1 cap)).heap[sb]? = some (.cells #[.int .i64 n, .slice aa la ca, .slice ba lb cb, .slice (some ⟨g, 0, none⟩) 1 cap] 31 (0, 0))) := set_four HS1.out
  have d3 : w1.cell? ⟨sb, 3, none⟩ = some (.slice none 0 0) := (Lib.cell_of_heap HS1.out 3).trans rfl
  have d0 : w1.cell? ⟨sb, 0, none⟩ = some (.int .i64 n) := (Lib.cell_of_heap HS1.out 0).trans rfl
  have g3 : w1.frozen? ⟨sb, 3, none⟩ = false := Lib.frozen_of_heap HS1.out 3
  have l1 : w.heap.size + 1 ≤ w1.heap.size := by have := hgrow.size; simpa using this
  have lsb1 : sb < w1.heap.size := by omega
  have hgg : w.heap.size + 1 ≤ g := by
    have e : g = w.heap.size + 1 := by simpa [Value.ownBlock] using hat
    omega
  have HG : Hid (w1.cell? ⟨g, 0, none⟩ = some (.int .i64 0)) := (by simpa [Addr.add_lit] using hown.cells (g := g) rfl 0 (.int .i64 0) rfl : _ = _)
  have HGR : Hid ((w.alloc (.cells #[.int .i64 0] 32)).grownBy w1 none) := hgrow
  have HLs : Hid (Calls Ybaf.prog 38 #[.pointer (some ⟨sb, 0, none⟩), .int .i64 0] (w1.setCell ⟨sb, 3, none⟩ (.slice (some ⟨g, 0, none⟩) 1 cap)) fun e w' => e = .returned (.slice aa la ca) ∧ w' = (w1.setCell ⟨sb, 3, none⟩ (.slice (some ⟨g, 0, none⟩) 1 cap))) := list_exact sb n la lb aa ba ca cb _ false _ HS2.out
  clear hown hgrow hat c0 c3 f3
  go_wp2_with fail
  refine HLs.out.mono ?_
  rintro e w2 ⟨rfl, hw2⟩
  subst hw2
  go_wp2_with fail
  go_ret
  refine ⟨w1.heap.size, w1.heap.size + 1, g, cap, rfl, ?_, ?_, by omega, by omega, by omega, ?_, ?_, HGR.out.os, HGR.out.tape, HGR.out.output, ?_, fun k hk hne => ?_⟩
  · have := heap_alloc2_fst (w1.setCell ⟨sb, 3, none⟩ (.slice (some ⟨g, 0, none⟩) 1 cap)) (.cells #[.slice aa la ca] 25) (.cells #[.int .i64 n] 3)
    rwa [size_setCell] at this
  · have := heap_alloc2_new (w1.setCell ⟨sb, 3, none⟩ (.slice (some ⟨g, 0, none⟩) 1 cap)) (.cells #[.slice aa la ca] 25) (.cells #[.int .i64 n] 3)
    rwa [size_setCell] at this
  · rw [heap_alloc_old _ _ (by simp; omega), heap_alloc_old _ _ (by rw [size_setCell]; omega)]
    exact HS2.out
  · refine Lib.cell?_alloc_some _ (Lib.cell?_alloc_some _ ?_)
    rw [World.cell?_of_block (heap_setCell_other w1 3 _ (by omega : g ≠ sb))]
    exact HG.out
  · simp only [World.size_alloc, size_setCell]; omega
  · rw [heap_alloc_old _ _ (by simp only [World.size_alloc, size_setCell]; omega), heap_alloc_old _ _ (by rw [size_setCell]; omega), heap_setCell_other _ _ _ hne]
    exact (HGR.out.block k (by simp; omega) (by simp)).trans (heap_alloc_old w _ hk)
end Go.Proofs.YbulkdczqFmt
