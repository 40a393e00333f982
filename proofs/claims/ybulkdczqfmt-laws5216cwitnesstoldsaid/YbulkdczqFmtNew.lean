/-
  THE WALKS of NewSet (18), zzs5216cset (40), Set.Complement (10), HasQuorum (35).
-/
import Derived.Test.YbulkdczqFmtSet
namespace Go.Proofs.YbulkdczqFmt
open Go.RowKit

set_option maxHeartbeats 1000000 in
theorem new_any (n : Nat) (h1 : 1 ≤ n) (h2 : n ≤ 8) (w : World) :
    Calls Ybaf.prog 18 #[.int .i64 n, .slice none 0 0] w fun e w' => (∃ g, e = .returned (setV n g 1) ∧ w.heap.size ≤ g ∧ Word w' g 0) ∧ Below w.heap.size w w' := by
  have m1 : ((n : Int) + 63).tdiv 64 = 1 := by rw [Int.tdiv_eq_ediv_of_nonneg (by omega)]; omega
  have m2 : IntKind.i64.wrap ((n : Int) + 63) = (n : Int) + 63 := by simp [IntKind.wrap, IntKind.bits, IntKind.signed]; omega
  have hmk : ∀ w, (Instr.makeSlice 25 (.int .i64 1) (.int .i64 1)).run Ybaf.prog w = .ok (.slice (some ⟨w.heap.size, 0, none⟩) 1 1) (w.alloc (.cells #[.int .u64 0] 23)) := fun _ => by kernel_rfl
  unfold setV at *
  go_enter Ybaf.func18, Ybaf.ntmps18
  go_wp2_with fail
  refine wp_loop_rounds 1 ?_
  rw [rounds_succ]
  go_wp2_with fail
  refine bodyPost_ret (results_cell_row (p := 4) (ty := 36) rfl _ _ w.heap.size 36 _ (0, 0) _ rfl ((heap_alloc_old _ _ (by simp; omega)).trans (heap_alloc2_fst w _ _)) Ybaf.underlying36 rfl (by kernel_rfl)) rfl ?_
  refine ⟨⟨w.heap.size + 1, rfl, by omega, Word.alloc ⟨_, heap_alloc2_new w _ _, rfl⟩ _⟩, (((Below.refl _ w).alloc (Nat.le_refl _) _).alloc (by simp) _).alloc (by simp; omega) _⟩

theorem Below.keeps {B k : Nat} {w w' : World} {o : Obj} (h : Below B w w') (hk : k < B) (ho : w.heap[k]? = some o) : w'.heap[k]? = some o := (h.block k hk).trans ho

set_option maxHeartbeats 1000000 in
theorem set_any (n m : Nat) (h1 : 1 ≤ n) (h2 : n ≤ 8) (w : World) :
    Calls Ybaf.prog 40 #[.int .i64 n, .int .u64 m] w fun e w' => (∃ g, e = .returned (setV n g 1) ∧ w.heap.size ≤ g ∧ Word w' g m) ∧ Below w.heap.size w w' := by
  have HN : Hid (∀ w, Calls Ybaf.prog 18 #[.int .i64 n, .slice none 0 0] w fun e w' => (∃ g, e = .returned (setV n g 1) ∧ w.heap.size ≤ g ∧ Word w' g 0) ∧ Below w.heap.size w w') := fun w => new_any n h1 h2 w
  unfold setV at *
  go_enter Ybaf.func40, Ybaf.ntmps40
  go_wp2_with fail
  refine (HN.out _).mono ?_
  rintro e w1 ⟨⟨g, rfl, hg, hW⟩, hB⟩
  rw [World.size_alloc] at hg hB
  have HR : Hid (w1.heap[w.heap.size]? = some (.cells #[.int .i64 0, .slice none 0 0] 36 (0, 0))) := Below.keeps hB (by omega) (heap_alloc_new w _)
  have c0 : w1.cell? ⟨w.heap.size, 0, none⟩ = some (.int .i64 0) := (Lib.cell_of_heap HR.out 0).trans rfl
  have c1 : w1.cell? ⟨w.heap.size, 1, none⟩ = some (.slice none 0 0) := (Lib.cell_of_heap HR.out 1).trans rfl
  have f0 : w1.frozen? ⟨w.heap.size, 0, none⟩ = false := Lib.frozen_of_heap HR.out 0
  have f1 : w1.frozen? ⟨w.heap.size, 1, none⟩ = false := Lib.frozen_of_heap HR.out 1
  have gc := hW.cell
  have gf := hW.frozen
  have lg := hW.lt
  have l0 : w.heap.size < w1.heap.size := by omega
  have HW : Hid (Word w1 g 0) := hW
  have HB : Hid (Below w.heap.size w w1) := ((Below.refl _ w).alloc (Nat.le_refl _) _).trans (hB.mono (by omega))
  clear hB hW
  go_wp2_with fail
  have hne : g ≠ w.heap.size := by omega
  refine bodyPost_ret (results_cell_row (p := 4) (ty := 36) rfl _ _ w.heap.size 36 _ (0, 0) _ rfl ((heap_alloc_old _ _ (by simp only [size_setCell]; exact l0)).trans (two_cells ((heap_setCell_other _ _ _ (by omega)).trans HR.out))) Ybaf.underlying36 rfl (by kernel_rfl)) rfl ?_
  refine ⟨⟨g, rfl, by omega, Word.alloc (Word.other (Word.other (HW.out.set m) hne) hne) _⟩, ?_⟩
  exact (((HB.out.setCell (p := ⟨g, 0, none⟩) (by show w.heap.size ≤ g; omega) _).setCell (p := ⟨w.heap.size, 0, none⟩) (Nat.le_refl _) _).setCell (p := ⟨w.heap.size, 1, none⟩) (Nat.le_refl _) _).alloc (by simp only [size_setCell]; omega) _

/-- '^q' at 64 bits; the mask of n nodes. -/
def cpl (q : Nat) : Nat := 18446744073709551615 - q
def full (n : Nat) : Nat := 2 ^ n - 1
theorem full_lt (n : Nat) (h : n ≤ 8) : full n < 2 ^ 64 := by
  have := pow_lt64 n (by omega)
  unfold full; omega
theorem b_cpl (q : Nat) (hq64 : q < 2 ^ 64) : bits .xor .u64 IntKind.u64.max (q : Int) = ((cpl q : Nat) : Int) := by
  have hm : IntKind.u64.max = ((18446744073709551615 : Nat) : Int) := by rfl
  rw [hm, u64_xor_nat _ _ (by omega) hq64]
  congr 1
  apply Nat.eq_of_testBit_eq
  intro i
  unfold cpl
  have e1 : 18446744073709551615 - q = 2 ^ 64 - (q + 1) := by omega
  have e2 : (18446744073709551615 : Nat) = 2 ^ 64 - 1 := by omega
  rw [e1, Nat.testBit_two_pow_sub_succ hq64, Nat.testBit_xor, e2, Nat.testBit_two_pow_sub_one]
  by_cases hi : i < 64
  · simp [hi]
  · have : q.testBit i = false := Nat.testBit_lt_two_pow (Nat.lt_of_lt_of_le hq64 (Nat.pow_le_pow_right (by omega) (by omega)))
    simp [hi, this]
theorem b_full (n : Nat) (h : n ≤ 8) : IntKind.u64.wrap ((2 : Int) ^ n - 1) = ((full n : Nat) : Int) := by
  rw [← cast_pow, IntKind.wrap_u64]
  have h1 : 2 ^ n < 18446744073709551616 := pow_lt64 n (by omega)
  have h2 : 0 < 2 ^ n := Nat.two_pow_pos n
  unfold full
  generalize 2 ^ n = x at *
  omega
theorem b_sub (n q : Nat) (h : n ≤ 8) (hq64 : q < 2 ^ 64) : bits .and .u64 ((cpl q : Nat) : Int) ((full n : Nat) : Int) = ((sub (full n) q : Nat) : Int) := by
  rw [u64_and_nat _ _ (by unfold cpl; omega) (full_lt n h), Nat.and_comm]
  rfl

set_option maxHeartbeats 1000000 in
theorem compl_any (n b c q : Nat) (h1 : 1 ≤ n) (h2 : n ≤ 8) (hq64 : q < 2 ^ 64) (w : World) (hW0 : Word w b q) :
    Calls Ybaf.prog 10 #[setV n b c] w fun e w' => (∃ g c', e = .returned (setV n g c') ∧ w.heap.size ≤ g ∧ Word w' g (sub (full n) q)) ∧ Below w.heap.size w w' := by
  have HN : Hid (∀ w, Word w b q → Calls Ybaf.prog 12 #[setV n b c] w fun e w' => (∃ g c', e = .returned (setV n g c') ∧ w.heap.size ≤ g ∧ Word w' g q) ∧ Below w.heap.size w w') := fun w h => clone_any n b c q w h
  have HW0 : Hid (Word w b q) := hW0
  have m1 : (n : Int).tmod 64 = n := by rw [Int.tmod_eq_emod_of_nonneg (by omega)]; omega
  have m3 : ((n : Int) != 0) = true := by simp; omega
  have m4 : (0 : Int) ≤ n := by omega
  have m7 : (n : Int) < 64 := by omega
  have m8 := pw n (by omega)
  have m9 := b_cpl q hq64
  have m10 := b_full n h2
  have m11 := b_sub n q h2 hq64
  clear hW0
  unfold setV at *
  go_enter Ybaf.func10, Ybaf.ntmps10
  go_wp2_with fail
  refine (HN.out _ ((HW0.out.alloc _).alloc _)).mono ?_
  rintro e w1 ⟨⟨g, c', rfl, hg, hW⟩, hB⟩
  rw [World.size_alloc, World.size_alloc] at hg hB
  have HR : Hid (w1.heap[w.heap.size + 1]? = some (.cells #[.int .i64 0, .slice none 0 0] 36 (0, 0))) := Below.keeps hB (by omega) (heap_alloc2_new w _ _)
  have HX : Hid (w1.heap[w.heap.size]? = some (.cells #[.int .i64 n, .slice (some ⟨b, 0, none⟩) 1 c] 36 (0, 0))) := Below.keeps hB (by omega) (heap_alloc2_fst w _ _)
  have c0 : w1.cell? ⟨w.heap.size + 1, 0, none⟩ = some (.int .i64 0) := (Lib.cell_of_heap HR.out 0).trans rfl
  have c1 : w1.cell? ⟨w.heap.size + 1, 1, none⟩ = some (.slice none 0 0) := (Lib.cell_of_heap HR.out 1).trans rfl
  have f0 : w1.frozen? ⟨w.heap.size + 1, 0, none⟩ = false := Lib.frozen_of_heap HR.out 0
  have f1 : w1.frozen? ⟨w.heap.size + 1, 1, none⟩ = false := Lib.frozen_of_heap HR.out 1
  have c2 : w1.cell? ⟨w.heap.size, 0, none⟩ = some (.int .i64 n) := (Lib.cell_of_heap HX.out 0).trans rfl
  have gc := hW.cell
  have gf := hW.frozen
  have lg := hW.lt
  have l0 : w.heap.size + 1 < w1.heap.size := by omega
  have l1 : w.heap.size < w1.heap.size := by omega
  have HW : Hid (Word w1 g q) := hW
  have HB : Hid (Below w.heap.size w w1) := (((Below.refl _ w).alloc (Nat.le_refl _) _).alloc (by simp) _).trans (hB.mono (by omega))
  have n1 : g ≠ w.heap.size := by omega
  have n2 : g ≠ w.heap.size + 1 := by omega
  have n3 : g ≠ w1.heap.size := by omega
  clear hB hW
  go_wp2_with fail
  refine wp_loop_rounds 2 ?_
  rw [rounds_succ]
  go_wp2_with fail
  go_region
  go_wp2_with fail
  rw [rounds_succ]
  go_wp2_with fail
  go_region
  go_wp2_with fail
  refine bodyPost_ret (results_cell_row (p := 2) (ty := 36) rfl _ _ (w.heap.size + 1) 36 _ (0, 0) _ rfl ((heap_alloc_old _ _ (by simp only [size_setCell]; exact l0)).trans (two_cells ((heap_setCell_other _ _ _ (by omega)).trans ((heap_setCell_other _ _ _ (by omega)).trans HR.out)))) Ybaf.underlying36 rfl (by kernel_rfl)) rfl ?_
  refine ⟨⟨g, c', rfl, by omega, Word.alloc (Word.other (Word.other ((HW.out.set _).set _) n2) n2) _⟩, ?_⟩
  exact below_drew (below_drew (((((HB.out.setCell (p := ⟨g, 0, none⟩) (by show w.heap.size ≤ g; omega) _).setCell (p := ⟨g, 0, none⟩) (by show w.heap.size ≤ g; omega) _).setCell (p := ⟨w.heap.size + 1, 0, none⟩) (by simp) _).setCell (p := ⟨w.heap.size + 1, 1, none⟩) (by simp) _).alloc (by simp only [size_setCell]; omega) _))
end Go.Proofs.YbulkdczqFmt
