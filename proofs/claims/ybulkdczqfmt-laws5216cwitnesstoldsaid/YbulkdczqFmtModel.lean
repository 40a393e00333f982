/-
  THE WALK of LawS5216CModel (3).
-/
import Derived.Test.YbulkdczqFmtMasks
namespace Go.Proofs.YbulkdczqFmt
open Go.RowKit

/-- How many nodes. -/
def nodes (N : Nat) : Nat := N % 8 + 1
theorem n_rem (N : Nat) (h : N < 256) : IntKind.u8.wrap ((N : Int).tmod 8) = ((N % 8 : Nat) : Int) := by
  rw [Int.tmod_eq_emod_of_nonneg (by omega)]
  simp [IntKind.wrap, IntKind.bits, IntKind.signed]
  omega

theorem masks_lists {f : Nat} {A B : List Nat} (hA : A.length ≤ 300) (hB : B.length ≤ 300) (a8 : ∀ x ∈ A, x < 256) (b8 : ∀ x ∈ B, x < 256) : Lists (masks f A) (masks f B) where
  la := by simpa [masks] using hA
  lb := by simpa [masks] using hB
  ma := fun m hm => by
    obtain ⟨x, hx, rfl⟩ := List.mem_map.1 hm
    have h1 : x &&& f ≤ x := Nat.and_le_left
    have := a8 x hx
    omega
  mb := fun m hm => by
    obtain ⟨x, hx, rfl⟩ := List.mem_map.1 hm
    have h1 : x &&& f ≤ x := Nat.and_le_left
    have := b8 x hx
    omega

theorem after_noted {sb n la lb : Nat} {aa ba : Option Addr} {ca cb : Nat} {w w2 w4 w5 : World} (h2 : Below w.heap.size w w2) (h4 : Below w2.heap.size w2 w4) (hN : Noted sb n la lb aa ba ca cb w4 w5) (hsb : w2.heap.size ≤ sb) : Below w.heap.size w w5 :=
  ⟨hN.os.trans (h4.os.trans h2.os), hN.tape.trans (h4.tape.trans h2.tape), hN.output.trans (h4.output.trans h2.output), Nat.le_trans h2.size (Nat.le_trans h4.size hN.size), fun k hk => by
    have e1 := h2.size
    have e2 := h4.size
    exact (hN.block k (by omega) (by omega)).trans ((h4.block k (by omega)).trans (h2.block k hk))⟩
theorem find_out {al : List Nat} {f : Nat → Bool} (h : al.find? f = none) (i : Nat) (hi : i < al.length) : f al[i] = false := by
  have := List.find?_eq_none.1 h al[i] (List.getElem_mem _)
  simpa using this
theorem find_in {al : List Nat} {f : Nat → Bool} {a : Nat} (h : al.find? f = some a) : ∃ i, ∃ hi : i < al.length, al[i] = a ∧ f al[i] = true ∧ ∀ j, (hj : j < al.length) → j < i → f al[j] = false := by
  rw [List.find?_eq_some_iff_getElem] at h
  obtain ⟨h1, i, hi, e, hlt⟩ := h
  exact ⟨i, hi, e, by rw [e]; exact h1, fun j hj hji => by simpa using hlt j hji⟩
theorem b_comp (n a : Nat) (h : n ≤ 8) (ha : a < 2 ^ 64) : bits .andNot .u64 ((full n : Nat) : Int) (a : Int) = ((sub (full n) a : Nat) : Int) := u64_andNot_nat _ _ (full_lt n h) ha
theorem beq_self_int (x : Int) : (x == x) = true := by simp

set_option maxRecDepth 100000 in
set_option maxHeartbeats 400000 in
theorem model_long (N : Int) (p q : Option Addr) (n c m d : Nat) (s : Bool) (w : World) (h : 300 < n ∨ 300 < m) :
    Calls Ybaf.prog 3 #[.int .u8 N, .slice p n c, .slice q m d, .bool s] w fun e w' => e = .returned (.bool true) ∧ Below w.heap.size w w' := by
  by_cases h1 : 300 < n
  · have h1' : (300 : Int) < n := by omega
    clear h
    go_enter Ybaf.func3, Ybaf.ntmps3
    go_wp2
    go_ret
    exact ⟨rfl, Below.refl _ _⟩
  · have h1' : ¬ (300 : Int) < n := by omega
    have h2' : (300 : Int) < m := by omega
    clear h
    go_enter Ybaf.func3, Ybaf.ntmps3
    go_wp2
    go_ret
    exact ⟨rfl, Below.refl _ _⟩

set_option maxRecDepth 100000 in
set_option maxHeartbeats 3200000 in
theorem model_false (N : Nat) (hN : N < 256) (p q : Option Addr) (c d : Nat) (A B : List Nat) (hA : A.length ≤ 300) (hB : B.length ≤ 300) (a8 : ∀ x ∈ A, x < 256) (b8 : ∀ x ∈ B, x < 256) (w : World) (hp : Bytes w p A) (hq' : Bytes w q B) :
    Calls Ybaf.prog 3 #[.int .u8 N, .slice p A.length c, .slice q B.length d, .bool false] w fun e w' => e = .returned (.bool true) ∧ Below w.heap.size w w' := by
  have k1 : ¬ (300 : Int) < (A.length : Nat) := by omega
  have k2 : ¬ (300 : Int) < (B.length : Nat) := by omega
  obtain ⟨n, hn⟩ : ∃ n, n = N % 8 + 1 := ⟨_, rfl⟩
  have h1 : 1 ≤ n := by omega
  have h2 : n ≤ 8 := by omega
  have m0 : (N : Int).tmod 8 = (n : Int) - 1 := by rw [Int.tmod_eq_emod_of_nonneg (by omega)]; omega
  have m1 : (1 : Int) ≤ n := by omega
  have m2 : (n : Int) ≤ 8 := by omega
  have m3 := pw n (by omega)
  have m4 := b_full n h2
  clear hn
  have HMA : Hid (∀ w', Below w.heap.size w w' → Calls Ybaf.prog 5 #[.slice p A.length c, .int .u64 (full n)] w' fun e w'' => ∃ a' c', e = .returned (.slice a' (masks (full n) A).length c') ∧ Row w'' a' (masks (full n) A) ∧ Below w'.heap.size w' w'') := fun w' hb => masks_any p c (full n) A hA a8 (full_lt n h2) w' (hp.below hb (Nat.le_refl _))
  have HMB : Hid (∀ w', Below w.heap.size w w' → Calls Ybaf.prog 5 #[.slice q B.length d, .int .u64 (full n)] w' fun e w'' => ∃ a' c', e = .returned (.slice a' (masks (full n) B).length c') ∧ Row w'' a' (masks (full n) B) ∧ Below w'.heap.size w' w'') := fun w' hb => masks_any q d (full n) B hB b8 (full_lt n h2) w' (hq'.below hb (Nat.le_refl _))
  have hL : Lists (masks (full n) A) (masks (full n) B) := masks_lists hA hB a8 b8
  clear hp hq' a8 b8
  generalize masks (full n) A = al at *
  generalize masks (full n) B = bl at *
  have HL : Hid (Lists al bl) := hL
  have hla := hL.la
  have hlb := hL.lb
  clear hL
  go_enter Ybaf.func3, Ybaf.ntmps3
  go_wp2_with fail
  refine (HMA.out _ (Below.refl _ _)).mono ?_
  rintro e w1 ⟨aa, ca, rfl, hra, hb1⟩
  have HRA : Hid (Row w1 aa al) := hra
  have HB1 : Hid (Below w.heap.size w w1) := hb1
  clear hra hb1
  go_wp2_with fail
  refine (HMB.out _ HB1.out).mono ?_
  rintro e w2 ⟨ba, cb, rfl, hrb, hb2⟩
  have HRA2 : Hid (Row w2 aa al) := HRA.out.below hb2 (Nat.le_refl _)
  have HRB2 : Hid (Row w2 ba bl) := hrb
  have HB2 : Hid (Below w.heap.size w w2) := HB1.out.trans (hb2.mono HB1.out.size)
  clear hrb hb2 HRA HB1 HMA HMB
  go_wp2_with fail
  have HS4 : Hid (((w2.alloc (.cells #[.int .i64 n, .slice aa al.length ca, .slice ba bl.length cb, .slice none 0 0] 31)).alloc (.cells #[.int .i64 0, .int .i64 1] 34)).heap[w2.heap.size]? = some (.cells #[.int .i64 n, .slice aa al.length ca, .slice ba bl.length cb, .slice none 0 0] 31 (0, 0))) := heap_alloc2_fst w2 _ _
  have HB4 : Hid (Below w2.heap.size w2 ((w2.alloc (.cells #[.int .i64 n, .slice aa al.length ca, .slice ba bl.length cb, .slice none 0 0] 31)).alloc (.cells #[.int .i64 0, .int .i64 1] 34))) := ((Below.refl _ w2).alloc (Nat.le_refl _) _).alloc (by simp) _
  generalize (w2.alloc (.cells #[.int .i64 n, .slice aa al.length ca, .slice ba bl.length cb, .slice none 0 0] 31)).alloc (.cells #[.int .i64 0, .int .i64 1] 34) = w4 at *
  have HRA4 : Hid (Row w4 aa al) := HRA2.out.below HB4.out (Nat.le_refl _)
  have HRB4 : Hid (Row w4 ba bl) := HRB2.out.below HB4.out (Nat.le_refl _)
  refine (enum_any w2.heap.size n al bl HL.out true aa ba ca cb h1 h2 w4 HS4.out HRA4.out HRB4.out).mono ?_
  rintro e w5 ⟨hNt, hres⟩
  obtain ⟨g, cap, hg, hsb5, hgc⟩ := hNt.noted
  have HRA5 : Hid (Row w5 aa al) := HRA4.out.noted HS4.out hNt.block
  have HRB5 : Hid (Row w5 ba bl) := HRB4.out.noted HS4.out hNt.block
  have HB5 : Hid (Below w.heap.size w w5) := after_noted HB2.out HB4.out hNt (Nat.le_refl _)
  have c3 : w5.cell? ⟨w2.heap.size, 3, none⟩ = some (.slice (some ⟨g, 0, none⟩) 1 cap) := (Lib.cell_of_heap hsb5 3).trans rfl
  have l5 : w2.heap.size < w5.heap.size := (Array.getElem?_eq_some_iff.1 hsb5).1
  have lg : g < w5.heap.size := World.block_lt_of_cell? w5 _ hgc
  clear hNt hsb5 hg HS4 HB4 HRA4 HRB4 HRA2 HRB2 HB2
  rcases hres with ⟨hf, rfl⟩ | ⟨a, ga, xa, gb, xb, hf, rfl, hWa, hWb⟩
  · have HF : Hid (∀ i, (hi : i < al.length) → hq bl (sub (full n) al[i]) = false) := find_out hf
    clear hf
    go_wp2_with fail
    have HB7 : Hid (Below w5.heap.size w5 ((w5.alloc (.cells #[.int .i64 0, .slice none 0 0] 36)).alloc (.cells #[.int .i64 0, .slice none 0 0] 36))) := ((Below.refl _ w5).alloc (Nat.le_refl _) _).alloc (by simp) _
    have HX0 : Hid (((w5.alloc (.cells #[.int .i64 0, .slice none 0 0] 36)).alloc (.cells #[.int .i64 0, .slice none 0 0] 36)).heap[w5.heap.size]? = some (.cells #[.int .i64 0, .slice none 0 0] 36 (0, 0))) := heap_alloc2_fst w5 _ _
    have HX1 : Hid (((w5.alloc (.cells #[.int .i64 0, .slice none 0 0] 36)).alloc (.cells #[.int .i64 0, .slice none 0 0] 36)).heap[w5.heap.size + 1]? = some (.cells #[.int .i64 0, .slice none 0 0] 36 (0, 0))) := heap_alloc2_new w5 _ _
    generalize (w5.alloc (.cells #[.int .i64 0, .slice none 0 0] 36)).alloc (.cells #[.int .i64 0, .slice none 0 0] 36) = W7 at *
    have HRA7 : Hid (Row W7 aa al) := HRA5.out.below HB7.out (Nat.le_refl _)
    have HRB7 : Hid (Row W7 ba bl) := HRB5.out.below HB7.out (Nat.le_refl _)
    have HBF : Hid (Below w.heap.size w W7) := HB5.out.trans (HB7.out.mono HB5.out.size)
    have x0 : W7.cell? ⟨w5.heap.size, 0, none⟩ = some (.int .i64 0) := (Lib.cell_of_heap HX0.out 0).trans rfl
    have x1 : W7.cell? ⟨w5.heap.size, 1, none⟩ = some (.slice none 0 0) := (Lib.cell_of_heap HX0.out 1).trans rfl
    have x2 : W7.cell? ⟨w5.heap.size + 1, 0, none⟩ = some (.int .i64 0) := (Lib.cell_of_heap HX1.out 0).trans rfl
    have x3 : W7.cell? ⟨w5.heap.size + 1, 1, none⟩ = some (.slice none 0 0) := (Lib.cell_of_heap HX1.out 1).trans rfl
    clear HRA5 HRB5 HB5 HB7 HX0 HX1 c3 hgc
    go_loopg [81] al.length (fun kx s wr => ∃ i : Nat, s = .int .i64 i ∧ i ≤ al.length ∧ al.length - i ≤ kx ∧ wr = W7)
    case atStart => exact ⟨0, rfl, Nat.zero_le _, by omega, rfl⟩
    case round =>
      obtain ⟨i, rfl, hi, hgk, rfl⟩ := hrel
      by_cases hlt : i < al.length
      · obtain ⟨b, o, rfl, hc⟩ := HRA7.out.resolve_left (fun e => by rw [e] at hlt; simp at hlt)
        have c1 := hc i hlt
        have ha64 : al[i] < 2 ^ 64 := HL.out.ma _ (List.getElem_mem _)
        have e1 := b_comp n al[i] h2 ha64
        have y1 : (i : Int) < (al.length : Int) := by omega
        have y0 : (0 : Int) ≤ (i : Int) := by omega
        have HCQ : Hid (Calls Ybaf.prog 7 #[.slice ba bl.length cb, .int .u64 (sub (full n) al[i])] wr fun e w' => e = .returned (.bool (hq bl (sub (full n) al[i]))) ∧ w' = wr) := chq_any _ _ _ _ HL.out.mb (Nat.lt_of_le_of_lt (sub_le _ _) (full_lt n h2)) HL.out.lb wr HRB7.out
        rw [HF.out i hlt] at HCQ
        clear hc
        generalize sub (full n) al[i] = cm at *
        generalize al[i] = z at *
        go_wp2_with fail
        refine HCQ.out.mono ?_
        rintro e w6 ⟨rfl, hw6⟩
        subst hw6
        go_wp2_with fail
        go_roundg (al.length - (i + 1))
        case measure => omega
        case rel => exact ⟨i + 1, by go_num, by omega, Nat.le_refl _, rfl⟩
      · have y2 : ¬ (i : Int) < (al.length : Int) := by omega
        go_wp2_with fail
        go_ret
        exact ⟨rfl, HBF.out⟩
  · obtain ⟨i0, hi0, rfl, hin, hbef⟩ := find_in hf
    have HF : Hid (∀ j, (hj : j < al.length) → j < i0 → hq bl (sub (full n) al[j]) = false) := hbef
    have HIN : Hid (hq bl (sub (full n) al[i0]) = true) := hin
    have HWA : Hid (Word w5 ga al[i0]) := hWa
    have HWB : Hid (Word w5 gb (greedy (hq bl) n (sub (full n) al[i0]))) := hWb
    clear hf hin hbef hWa hWb
    unfold setV
    go_wp2_with fail
    have HB7 : Hid (Below w5.heap.size w5 ((w5.alloc (.cells #[.int .i64 n, .slice (some ⟨ga, 0, none⟩) 1 xa] 36)).alloc (.cells #[.int .i64 n, .slice (some ⟨gb, 0, none⟩) 1 xb] 36))) := ((Below.refl _ w5).alloc (Nat.le_refl _) _).alloc (by simp) _
    have HX0 : Hid (((w5.alloc (.cells #[.int .i64 n, .slice (some ⟨ga, 0, none⟩) 1 xa] 36)).alloc (.cells #[.int .i64 n, .slice (some ⟨gb, 0, none⟩) 1 xb] 36)).heap[w5.heap.size]? = some (.cells #[.int .i64 n, .slice (some ⟨ga, 0, none⟩) 1 xa] 36 (0, 0))) := heap_alloc2_fst w5 _ _
    have HX1 : Hid (((w5.alloc (.cells #[.int .i64 n, .slice (some ⟨ga, 0, none⟩) 1 xa] 36)).alloc (.cells #[.int .i64 n, .slice (some ⟨gb, 0, none⟩) 1 xb] 36)).heap[w5.heap.size + 1]? = some (.cells #[.int .i64 n, .slice (some ⟨gb, 0, none⟩) 1 xb] 36 (0, 0))) := heap_alloc2_new w5 _ _
    generalize (w5.alloc (.cells #[.int .i64 n, .slice (some ⟨ga, 0, none⟩) 1 xa] 36)).alloc (.cells #[.int .i64 n, .slice (some ⟨gb, 0, none⟩) 1 xb] 36) = W7 at *
    have HRA7 : Hid (Row W7 aa al) := HRA5.out.below HB7.out (Nat.le_refl _)
    have HRB7 : Hid (Row W7 ba bl) := HRB5.out.below HB7.out (Nat.le_refl _)
    have HBF : Hid (Below w.heap.size w W7) := HB5.out.trans (HB7.out.mono HB5.out.size)
    have HWA7 : Hid (Word W7 ga al[i0]) := HWA.out.below HB7.out HWA.out.lt
    have HWB7 : Hid (Word W7 gb (greedy (hq bl) n (sub (full n) al[i0]))) := HWB.out.below HB7.out HWB.out.lt
    have x0 : W7.cell? ⟨w5.heap.size, 0, none⟩ = some (.int .i64 n) := (Lib.cell_of_heap HX0.out 0).trans rfl
    have x1 : W7.cell? ⟨w5.heap.size, 1, none⟩ = some (.slice (some ⟨ga, 0, none⟩) 1 xa) := (Lib.cell_of_heap HX0.out 1).trans rfl
    have x2 : W7.cell? ⟨w5.heap.size + 1, 0, none⟩ = some (.int .i64 n) := (Lib.cell_of_heap HX1.out 0).trans rfl
    have x3 : W7.cell? ⟨w5.heap.size + 1, 1, none⟩ = some (.slice (some ⟨gb, 0, none⟩) 1 xb) := (Lib.cell_of_heap HX1.out 1).trans rfl
    have l7 : w5.heap.size + 1 < W7.heap.size := (Array.getElem?_eq_some_iff.1 HX1.out).1
    clear HRA5 HRB5 HB5 HB7 HX0 HX1 c3 hgc HWA HWB
    go_loopg [81] (i0 + 1) (fun kx s wr => ∃ i : Nat, s = .int .i64 i ∧ i ≤ i0 ∧ i0 + 1 - i ≤ kx ∧ wr = W7)
    case atStart => exact ⟨0, rfl, Nat.zero_le _, by omega, rfl⟩
    case round =>
      obtain ⟨i, rfl, hi, hgk, rfl⟩ := hrel
      have hlt : i < al.length := by omega
      obtain ⟨b, o, rfl, hc⟩ := HRA7.out.resolve_left (fun e => by rw [e] at hlt; simp at hlt)
      have c1 := hc i hlt
      have ha64 : al[i] < 2 ^ 64 := HL.out.ma _ (List.getElem_mem _)
      have e1 := b_comp n al[i] h2 ha64
      have y1 : (i : Int) < (al.length : Int) := by omega
      have y0 : (0 : Int) ≤ (i : Int) := by omega
      have HCQ : Hid (Calls Ybaf.prog 7 #[.slice ba bl.length cb, .int .u64 (sub (full n) al[i])] wr fun e w' => e = .returned (.bool (hq bl (sub (full n) al[i]))) ∧ w' = wr) := chq_any _ _ _ _ HL.out.mb (Nat.lt_of_le_of_lt (sub_le _ _) (full_lt n h2)) HL.out.lb wr HRB7.out
      clear hc
      by_cases hii : i = i0
      · subst hii
        have HAP : Hid (greedy (hq bl) n (sub (full n) al[i]) &&& al[i] = 0) := sub_apart (full n) al[i] _ (full_lt n h2) ha64 (fun j hj => greedy_bits (hq bl) n _ (by omega) (Nat.lt_of_le_of_lt (sub_le _ _) (full_lt n h2)) j hj)
        have hc64 : sub (full n) al[i] < 2 ^ 64 := Nat.lt_of_le_of_lt (sub_le _ _) (full_lt n h2)
        rw [HIN.out] at HCQ
        clear HIN HF
        generalize sub (full n) al[i] = cm at *
        generalize al[i] = z at *
        go_wp2_with fail
        refine HCQ.out.mono ?_
        rintro e w6 ⟨rfl, hw6⟩
        subst hw6
        go_wp2_with fail
        go_loopg [21, 22] n (fun kx s21 s22 wr => ∃ k x : Nat, s22 = .int .i64 ((k : Int) - 1) ∧ s21 = .int .u64 x ∧ k ≤ n ∧ k ≤ kx ∧ Hid (x ≤ cm ∧ greedy (hq bl) k x = greedy (hq bl) n cm) ∧ wr = w6)
        case atStart => exact ⟨n, cm, rfl, rfl, Nat.le_refl _, Nat.le_refl _, ⟨Nat.le_refl _, rfl⟩, rfl⟩
        case round =>
          obtain ⟨k, x, rfl, rfl, hkn, hkx, HG, rfl⟩ := hrel
          have hx64 : x < 2 ^ 64 := Nat.lt_of_le_of_lt HG.out.1 hc64
          cases k with
          | zero =>
            obtain rfl : x = greedy (hq bl) n cm := HG.out.2
            have z5 : bits .and .u64 ((greedy (hq bl) n cm : Nat) : Int) (z : Int) = 0 := by rw [u64_and_nat _ _ hx64 ha64, HAP.out]; rfl
            have z6 : (((n : Nat) : Int) == ((n : Nat) : Int)) = true := beq_self_int _
            have z7 : ((z : Int) == (z : Int)) = true := beq_self_int _
            have z8 : (((greedy (hq bl) n cm : Nat) : Int) == ((greedy (hq bl) n cm : Nat) : Int)) = true := beq_self_int _
            have HM1 : Hid (Calls Ybaf.prog 8 #[.agg #[.int .i64 n, .slice (some ⟨ga, 0, none⟩) 1 xa]] wr fun e w' => e = .returned (.int .u64 z) ∧ ∃ o, w' = wr.alloc o) := mask_any n ga xa z wr HWA7.out.cell
            have HM2 : Hid (∀ o, Calls Ybaf.prog 8 #[.agg #[.int .i64 n, .slice (some ⟨gb, 0, none⟩) 1 xb]] (wr.alloc o) fun e w' => e = .returned (.int .u64 (greedy (hq bl) n cm)) ∧ ∃ o2, w' = (wr.alloc o).alloc o2) := fun o => mask_any n gb xb _ (wr.alloc o) (HWB7.out.alloc o).cell
            have l8 : w5.heap.size < wr.heap.size := by omega
            clear HG HAP
            generalize greedy (hq bl) n cm = gq at *
            go_wp2_with fail
            refine HM1.out.mono ?_
            rintro e w8 ⟨rfl, o1, hw8⟩
            subst hw8
            go_wp2_with fail
            refine (HM2.out _).mono ?_
            rintro e w9 ⟨rfl, o2, hw9⟩
            subst hw9
            go_wp2_with fail
            go_ret
            exact ⟨rfl, (HBF.out.alloc HBF.out.size _).alloc (by have := HBF.out.size; simp; omega) _⟩
          | succ k =>
            have z0 : (0 : Int) ≤ (k : Int) := by omega
            have z1 : (k : Int) ≤ 7 := by omega
            have z2 := pw k (by omega)
            have z3 := b_and x k hx64 (by omega)
            have z4 := b_not x k hx64 (by omega)
            have HCQ2 : Hid (Calls Ybaf.prog 7 #[.slice ba bl.length cb, .int .u64 (sub x (2 ^ k))] wr fun e w' => e = .returned (.bool (hq bl (sub x (2 ^ k)))) ∧ w' = wr) := chq_any _ _ _ _ HL.out.mb (Nat.lt_of_le_of_lt (sub_le _ _) hx64) HL.out.lb wr HRB7.out
            cases htb : x.testBit k
            · rw [(and_pow_zero x k).2 htb] at z3
              have HG2 : Hid (x ≤ cm ∧ greedy (hq bl) k x = greedy (hq bl) n cm) := ⟨HG.out.1, (greedy_keep htb).symm.trans HG.out.2⟩
              go_wp2_with fail
              go_roundg k
              case measure => omega
              case rel => exact ⟨k, x, by first | rfl | go_num, rfl, by omega, Nat.le_refl _, HG2, rfl⟩
            · have z9 : (((x &&& 2 ^ k : Nat) : Int) == 0) = false := by
                have : x &&& 2 ^ k ≠ 0 := fun e => by rw [(and_pow_zero x k).1 e] at htb; cases htb
                simp only [beq_eq_false_iff_ne, ne_eq, Int.natCast_eq_zero]
                exact this
              cases hHx : hq bl (sub x (2 ^ k))
              · rw [hHx] at HCQ2
                have HG2 : Hid (x ≤ cm ∧ greedy (hq bl) k x = greedy (hq bl) n cm) := ⟨HG.out.1, (greedy_need htb hHx).symm.trans HG.out.2⟩
                clear hHx
                generalize sub x (2 ^ k) = y at *
                generalize x &&& 2 ^ k = u at *
                go_wp2_with fail
                refine HCQ2.out.mono ?_
                rintro e w8 ⟨rfl, hw8⟩
                subst hw8
                go_wp2_with fail
                go_roundg k
                case measure => omega
                case rel => exact ⟨k, x, by first | rfl | go_num, rfl, by omega, Nat.le_refl _, HG2, rfl⟩
              · rw [hHx] at HCQ2
                have HG2 : Hid (sub x (2 ^ k) ≤ cm ∧ greedy (hq bl) k (sub x (2 ^ k)) = greedy (hq bl) n cm) := ⟨Nat.le_trans (sub_le _ _) HG.out.1, (greedy_drop htb hHx).symm.trans HG.out.2⟩
                clear hHx
                generalize sub x (2 ^ k) = y at *
                generalize x &&& 2 ^ k = u at *
                go_wp2_with fail
                refine HCQ2.out.mono ?_
                rintro e w8 ⟨rfl, hw8⟩
                subst hw8
                go_wp2_with fail
                go_roundg k
                case measure => omega
                case rel => exact ⟨k, y, by first | rfl | go_num, rfl, by omega, Nat.le_refl _, HG2, rfl⟩
      · have hlt2 : i < i0 := by omega
        rw [HF.out i hlt hlt2] at HCQ
        generalize sub (full n) al[i] = cm at *
        generalize al[i] = z at *
        go_wp2_with fail
        refine HCQ.out.mono ?_
        rintro e w6 ⟨rfl, hw6⟩
        subst hw6
        go_wp2_with fail
        go_roundg (i0 + 1 - (i + 1))
        case measure => omega
        case rel => exact ⟨i + 1, by go_num, by omega, Nat.le_refl _, rfl⟩

set_option maxRecDepth 100000 in
set_option maxHeartbeats 3200000 in
theorem model_true (N : Nat) (hN : N < 256) (p q : Option Addr) (c d : Nat) (A B : List Nat) (hA : A.length ≤ 300) (hB : B.length ≤ 300) (a8 : ∀ x ∈ A, x < 256) (b8 : ∀ x ∈ B, x < 256) (w : World) (hp : Bytes w p A) (hq' : Bytes w q B) :
    Calls Ybaf.prog 3 #[.int .u8 N, .slice p A.length c, .slice q B.length d, .bool true] w fun e w' => e = .returned (.bool true) ∧ Below w.heap.size w w' := by
  have k1 : ¬ (300 : Int) < (A.length : Nat) := by omega
  have k2 : ¬ (300 : Int) < (B.length : Nat) := by omega
  obtain ⟨n, hn⟩ : ∃ n, n = N % 8 + 1 := ⟨_, rfl⟩
  have h1 : 1 ≤ n := by omega
  have h2 : n ≤ 8 := by omega
  have m0 : (N : Int).tmod 8 = (n : Int) - 1 := by rw [Int.tmod_eq_emod_of_nonneg (by omega)]; omega
  have m1 : (1 : Int) ≤ n := by omega
  have m2 : (n : Int) ≤ 8 := by omega
  have m3 := pw n (by omega)
  have m4 := b_full n h2
  clear hn
  have HMA : Hid (∀ w', Below w.heap.size w w' → Calls Ybaf.prog 5 #[.slice p A.length c, .int .u64 (full n)] w' fun e w'' => ∃ a' c', e = .returned (.slice a' (masks (full n) A).length c') ∧ Row w'' a' (masks (full n) A) ∧ Below w'.heap.size w' w'') := fun w' hb => masks_any p c (full n) A hA a8 (full_lt n h2) w' (hp.below hb (Nat.le_refl _))
  have HMB : Hid (∀ w', Below w.heap.size w w' → Calls Ybaf.prog 5 #[.slice q B.length d, .int .u64 (full n)] w' fun e w'' => ∃ a' c', e = .returned (.slice a' (masks (full n) B).length c') ∧ Row w'' a' (masks (full n) B) ∧ Below w'.heap.size w' w'') := fun w' hb => masks_any q d (full n) B hB b8 (full_lt n h2) w' (hq'.below hb (Nat.le_refl _))
  have hL : Lists (masks (full n) A) (masks (full n) B) := masks_lists hA hB a8 b8
  clear hp hq' a8 b8
  generalize masks (full n) A = al at *
  generalize masks (full n) B = bl at *
  have HL : Hid (Lists al bl) := hL
  have hla := hL.la
  have hlb := hL.lb
  clear hL
  go_enter Ybaf.func3, Ybaf.ntmps3
  go_wp2_with fail
  refine (HMA.out _ (Below.refl _ _)).mono ?_
  rintro e w1 ⟨aa, ca, rfl, hra, hb1⟩
  have HRA : Hid (Row w1 aa al) := hra
  have HB1 : Hid (Below w.heap.size w w1) := hb1
  clear hra hb1
  go_wp2_with fail
  refine (HMB.out _ HB1.out).mono ?_
  rintro e w2 ⟨ba, cb, rfl, hrb, hb2⟩
  have HRA2 : Hid (Row w2 aa al) := HRA.out.below hb2 (Nat.le_refl _)
  have HRB2 : Hid (Row w2 ba bl) := hrb
  have HB2 : Hid (Below w.heap.size w w2) := HB1.out.trans (hb2.mono HB1.out.size)
  clear hrb hb2 HRA HB1 HMA HMB
  go_wp2_with fail
  have HS4 : Hid (((w2.alloc (.cells #[.int .i64 n, .slice aa al.length ca, .slice ba bl.length cb, .slice none 0 0] 31)).alloc (.cells #[.int .i64 0, .int .i64 0] 34)).heap[w2.heap.size]? = some (.cells #[.int .i64 n, .slice aa al.length ca, .slice ba bl.length cb, .slice none 0 0] 31 (0, 0))) := heap_alloc2_fst w2 _ _
  have HB4 : Hid (Below w2.heap.size w2 ((w2.alloc (.cells #[.int .i64 n, .slice aa al.length ca, .slice ba bl.length cb, .slice none 0 0] 31)).alloc (.cells #[.int .i64 0, .int .i64 0] 34))) := ((Below.refl _ w2).alloc (Nat.le_refl _) _).alloc (by simp) _
  generalize (w2.alloc (.cells #[.int .i64 n, .slice aa al.length ca, .slice ba bl.length cb, .slice none 0 0] 31)).alloc (.cells #[.int .i64 0, .int .i64 0] 34) = w4 at *
  have HRA4 : Hid (Row w4 aa al) := HRA2.out.below HB4.out (Nat.le_refl _)
  have HRB4 : Hid (Row w4 ba bl) := HRB2.out.below HB4.out (Nat.le_refl _)
  refine (enum_any w2.heap.size n al bl HL.out false aa ba ca cb h1 h2 w4 HS4.out HRA4.out HRB4.out).mono ?_
  rintro e w5 ⟨hNt, hres⟩
  obtain ⟨g, cap, hg, hsb5, hgc⟩ := hNt.noted
  have HRA5 : Hid (Row w5 aa al) := HRA4.out.noted HS4.out hNt.block
  have HRB5 : Hid (Row w5 ba bl) := HRB4.out.noted HS4.out hNt.block
  have HB5 : Hid (Below w.heap.size w w5) := after_noted HB2.out HB4.out hNt (Nat.le_refl _)
  have c3 : w5.cell? ⟨w2.heap.size, 3, none⟩ = some (.slice (some ⟨g, 0, none⟩) 1 cap) := (Lib.cell_of_heap hsb5 3).trans rfl
  have l5 : w2.heap.size < w5.heap.size := (Array.getElem?_eq_some_iff.1 hsb5).1
  have lg : g < w5.heap.size := World.block_lt_of_cell? w5 _ hgc
  clear hNt hsb5 hg HS4 HB4 HRA4 HRB4 HRA2 HRB2 HB2
  rcases hres with ⟨hf, rfl⟩ | ⟨a, ga, xa, gb, xb, hf, rfl, hWa, hWb⟩
  · have HF : Hid (∀ i, (hi : i < al.length) → hq al (sub (full n) al[i]) = false) := find_out hf
    clear hf
    go_wp2_with fail
    have HB7 : Hid (Below w5.heap.size w5 ((w5.alloc (.cells #[.int .i64 0, .slice none 0 0] 36)).alloc (.cells #[.int .i64 0, .slice none 0 0] 36))) := ((Below.refl _ w5).alloc (Nat.le_refl _) _).alloc (by simp) _
    have HX0 : Hid (((w5.alloc (.cells #[.int .i64 0, .slice none 0 0] 36)).alloc (.cells #[.int .i64 0, .slice none 0 0] 36)).heap[w5.heap.size]? = some (.cells #[.int .i64 0, .slice none 0 0] 36 (0, 0))) := heap_alloc2_fst w5 _ _
    have HX1 : Hid (((w5.alloc (.cells #[.int .i64 0, .slice none 0 0] 36)).alloc (.cells #[.int .i64 0, .slice none 0 0] 36)).heap[w5.heap.size + 1]? = some (.cells #[.int .i64 0, .slice none 0 0] 36 (0, 0))) := heap_alloc2_new w5 _ _
    generalize (w5.alloc (.cells #[.int .i64 0, .slice none 0 0] 36)).alloc (.cells #[.int .i64 0, .slice none 0 0] 36) = W7 at *
    have HRA7 : Hid (Row W7 aa al) := HRA5.out.below HB7.out (Nat.le_refl _)
    have HRB7 : Hid (Row W7 ba bl) := HRB5.out.below HB7.out (Nat.le_refl _)
    have HBF : Hid (Below w.heap.size w W7) := HB5.out.trans (HB7.out.mono HB5.out.size)
    have x0 : W7.cell? ⟨w5.heap.size, 0, none⟩ = some (.int .i64 0) := (Lib.cell_of_heap HX0.out 0).trans rfl
    have x1 : W7.cell? ⟨w5.heap.size, 1, none⟩ = some (.slice none 0 0) := (Lib.cell_of_heap HX0.out 1).trans rfl
    have x2 : W7.cell? ⟨w5.heap.size + 1, 0, none⟩ = some (.int .i64 0) := (Lib.cell_of_heap HX1.out 0).trans rfl
    have x3 : W7.cell? ⟨w5.heap.size + 1, 1, none⟩ = some (.slice none 0 0) := (Lib.cell_of_heap HX1.out 1).trans rfl
    clear HRA5 HRB5 HB5 HB7 HX0 HX1 c3 hgc
    go_loopg [81] al.length (fun kx s wr => ∃ i : Nat, s = .int .i64 i ∧ i ≤ al.length ∧ al.length - i ≤ kx ∧ wr = W7)
    case atStart => exact ⟨0, rfl, Nat.zero_le _, by omega, rfl⟩
    case round =>
      obtain ⟨i, rfl, hi, hgk, rfl⟩ := hrel
      by_cases hlt : i < al.length
      · obtain ⟨b, o, rfl, hc⟩ := HRA7.out.resolve_left (fun e => by rw [e] at hlt; simp at hlt)
        have c1 := hc i hlt
        have ha64 : al[i] < 2 ^ 64 := HL.out.ma _ (List.getElem_mem _)
        have e1 := b_comp n al[i] h2 ha64
        have y1 : (i : Int) < (al.length : Int) := by omega
        have y0 : (0 : Int) ≤ (i : Int) := by omega
        have HCQ : Hid (Calls Ybaf.prog 7 #[.slice (some ⟨b, o, none⟩) al.length ca, .int .u64 (sub (full n) al[i])] wr fun e w' => e = .returned (.bool (hq al (sub (full n) al[i]))) ∧ w' = wr) := chq_any _ _ _ _ HL.out.ma (Nat.lt_of_le_of_lt (sub_le _ _) (full_lt n h2)) HL.out.la wr HRA7.out
        rw [HF.out i hlt] at HCQ
        clear hc
        generalize sub (full n) al[i] = cm at *
        generalize al[i] = z at *
        go_wp2_with fail
        refine HCQ.out.mono ?_
        rintro e w6 ⟨rfl, hw6⟩
        subst hw6
        go_wp2_with fail
        go_roundg (al.length - (i + 1))
        case measure => omega
        case rel => exact ⟨i + 1, by go_num, by omega, Nat.le_refl _, rfl⟩
      · have y2 : ¬ (i : Int) < (al.length : Int) := by omega
        go_wp2_with fail
        go_ret
        exact ⟨rfl, HBF.out⟩
  · obtain ⟨i0, hi0, rfl, hin, hbef⟩ := find_in hf
    have HF : Hid (∀ j, (hj : j < al.length) → j < i0 → hq al (sub (full n) al[j]) = false) := hbef
    have HIN : Hid (hq al (sub (full n) al[i0]) = true) := hin
    have HWA : Hid (Word w5 ga al[i0]) := hWa
    have HWB : Hid (Word w5 gb (greedy (hq al) n (sub (full n) al[i0]))) := hWb
    clear hf hin hbef hWa hWb
    unfold setV
    go_wp2_with fail
    have HB7 : Hid (Below w5.heap.size w5 ((w5.alloc (.cells #[.int .i64 n, .slice (some ⟨ga, 0, none⟩) 1 xa] 36)).alloc (.cells #[.int .i64 n, .slice (some ⟨gb, 0, none⟩) 1 xb] 36))) := ((Below.refl _ w5).alloc (Nat.le_refl _) _).alloc (by simp) _
    have HX0 : Hid (((w5.alloc (.cells #[.int .i64 n, .slice (some ⟨ga, 0, none⟩) 1 xa] 36)).alloc (.cells #[.int .i64 n, .slice (some ⟨gb, 0, none⟩) 1 xb] 36)).heap[w5.heap.size]? = some (.cells #[.int .i64 n, .slice (some ⟨ga, 0, none⟩) 1 xa] 36 (0, 0))) := heap_alloc2_fst w5 _ _
    have HX1 : Hid (((w5.alloc (.cells #[.int .i64 n, .slice (some ⟨ga, 0, none⟩) 1 xa] 36)).alloc (.cells #[.int .i64 n, .slice (some ⟨gb, 0, none⟩) 1 xb] 36)).heap[w5.heap.size + 1]? = some (.cells #[.int .i64 n, .slice (some ⟨gb, 0, none⟩) 1 xb] 36 (0, 0))) := heap_alloc2_new w5 _ _
    generalize (w5.alloc (.cells #[.int .i64 n, .slice (some ⟨ga, 0, none⟩) 1 xa] 36)).alloc (.cells #[.int .i64 n, .slice (some ⟨gb, 0, none⟩) 1 xb] 36) = W7 at *
    have HRA7 : Hid (Row W7 aa al) := HRA5.out.below HB7.out (Nat.le_refl _)
    have HRB7 : Hid (Row W7 ba bl) := HRB5.out.below HB7.out (Nat.le_refl _)
    have HBF : Hid (Below w.heap.size w W7) := HB5.out.trans (HB7.out.mono HB5.out.size)
    have HWA7 : Hid (Word W7 ga al[i0]) := HWA.out.below HB7.out HWA.out.lt
    have HWB7 : Hid (Word W7 gb (greedy (hq al) n (sub (full n) al[i0]))) := HWB.out.below HB7.out HWB.out.lt
    have x0 : W7.cell? ⟨w5.heap.size, 0, none⟩ = some (.int .i64 n) := (Lib.cell_of_heap HX0.out 0).trans rfl
    have x1 : W7.cell? ⟨w5.heap.size, 1, none⟩ = some (.slice (some ⟨ga, 0, none⟩) 1 xa) := (Lib.cell_of_heap HX0.out 1).trans rfl
    have x2 : W7.cell? ⟨w5.heap.size + 1, 0, none⟩ = some (.int .i64 n) := (Lib.cell_of_heap HX1.out 0).trans rfl
    have x3 : W7.cell? ⟨w5.heap.size + 1, 1, none⟩ = some (.slice (some ⟨gb, 0, none⟩) 1 xb) := (Lib.cell_of_heap HX1.out 1).trans rfl
    have l7 : w5.heap.size + 1 < W7.heap.size := (Array.getElem?_eq_some_iff.1 HX1.out).1
    clear HRA5 HRB5 HB5 HB7 HX0 HX1 c3 hgc HWA HWB
    go_loopg [81] (i0 + 1) (fun kx s wr => ∃ i : Nat, s = .int .i64 i ∧ i ≤ i0 ∧ i0 + 1 - i ≤ kx ∧ wr = W7)
    case atStart => exact ⟨0, rfl, Nat.zero_le _, by omega, rfl⟩
    case round =>
      obtain ⟨i, rfl, hi, hgk, rfl⟩ := hrel
      have hlt : i < al.length := by omega
      obtain ⟨b, o, rfl, hc⟩ := HRA7.out.resolve_left (fun e => by rw [e] at hlt; simp at hlt)
      have c1 := hc i hlt
      have ha64 : al[i] < 2 ^ 64 := HL.out.ma _ (List.getElem_mem _)
      have e1 := b_comp n al[i] h2 ha64
      have y1 : (i : Int) < (al.length : Int) := by omega
      have y0 : (0 : Int) ≤ (i : Int) := by omega
      have HCQ : Hid (Calls Ybaf.prog 7 #[.slice (some ⟨b, o, none⟩) al.length ca, .int .u64 (sub (full n) al[i])] wr fun e w' => e = .returned (.bool (hq al (sub (full n) al[i]))) ∧ w' = wr) := chq_any _ _ _ _ HL.out.ma (Nat.lt_of_le_of_lt (sub_le _ _) (full_lt n h2)) HL.out.la wr HRA7.out
      clear hc
      by_cases hii : i = i0
      · subst hii
        have HAP : Hid (greedy (hq al) n (sub (full n) al[i]) &&& al[i] = 0) := sub_apart (full n) al[i] _ (full_lt n h2) ha64 (fun j hj => greedy_bits (hq al) n _ (by omega) (Nat.lt_of_le_of_lt (sub_le _ _) (full_lt n h2)) j hj)
        have hc64 : sub (full n) al[i] < 2 ^ 64 := Nat.lt_of_le_of_lt (sub_le _ _) (full_lt n h2)
        rw [HIN.out] at HCQ
        clear HIN HF
        generalize sub (full n) al[i] = cm at *
        generalize al[i] = z at *
        go_wp2_with fail
        refine HCQ.out.mono ?_
        rintro e w6 ⟨rfl, hw6⟩
        subst hw6
        go_wp2_with fail
        go_loopg [21, 22] n (fun kx s21 s22 wr => ∃ k x : Nat, s22 = .int .i64 ((k : Int) - 1) ∧ s21 = .int .u64 x ∧ k ≤ n ∧ k ≤ kx ∧ Hid (x ≤ cm ∧ greedy (hq al) k x = greedy (hq al) n cm) ∧ wr = w6)
        case atStart => exact ⟨n, cm, rfl, rfl, Nat.le_refl _, Nat.le_refl _, ⟨Nat.le_refl _, rfl⟩, rfl⟩
        case round =>
          obtain ⟨k, x, rfl, rfl, hkn, hkx, HG, rfl⟩ := hrel
          have hx64 : x < 2 ^ 64 := Nat.lt_of_le_of_lt HG.out.1 hc64
          cases k with
          | zero =>
            obtain rfl : x = greedy (hq al) n cm := HG.out.2
            have z5 : bits .and .u64 ((greedy (hq al) n cm : Nat) : Int) (z : Int) = 0 := by rw [u64_and_nat _ _ hx64 ha64, HAP.out]; rfl
            have z6 : (((n : Nat) : Int) == ((n : Nat) : Int)) = true := beq_self_int _
            have z7 : ((z : Int) == (z : Int)) = true := beq_self_int _
            have z8 : (((greedy (hq al) n cm : Nat) : Int) == ((greedy (hq al) n cm : Nat) : Int)) = true := beq_self_int _
            have HM1 : Hid (Calls Ybaf.prog 8 #[.agg #[.int .i64 n, .slice (some ⟨ga, 0, none⟩) 1 xa]] wr fun e w' => e = .returned (.int .u64 z) ∧ ∃ o, w' = wr.alloc o) := mask_any n ga xa z wr HWA7.out.cell
            have HM2 : Hid (∀ o, Calls Ybaf.prog 8 #[.agg #[.int .i64 n, .slice (some ⟨gb, 0, none⟩) 1 xb]] (wr.alloc o) fun e w' => e = .returned (.int .u64 (greedy (hq al) n cm)) ∧ ∃ o2, w' = (wr.alloc o).alloc o2) := fun o => mask_any n gb xb _ (wr.alloc o) (HWB7.out.alloc o).cell
            have l8 : w5.heap.size < wr.heap.size := by omega
            clear HG HAP
            generalize greedy (hq al) n cm = gq at *
            go_wp2_with fail
            refine HM1.out.mono ?_
            rintro e w8 ⟨rfl, o1, hw8⟩
            subst hw8
            go_wp2_with fail
            refine (HM2.out _).mono ?_
            rintro e w9 ⟨rfl, o2, hw9⟩
            subst hw9
            go_wp2_with fail
            go_ret
            exact ⟨rfl, (HBF.out.alloc HBF.out.size _).alloc (by have := HBF.out.size; simp; omega) _⟩
          | succ k =>
            have z0 : (0 : Int) ≤ (k : Int) := by omega
            have z1 : (k : Int) ≤ 7 := by omega
            have z2 := pw k (by omega)
            have z3 := b_and x k hx64 (by omega)
            have z4 := b_not x k hx64 (by omega)
            have HCQ2 : Hid (Calls Ybaf.prog 7 #[.slice (some ⟨b, o, none⟩) al.length ca, .int .u64 (sub x (2 ^ k))] wr fun e w' => e = .returned (.bool (hq al (sub x (2 ^ k)))) ∧ w' = wr) := chq_any _ _ _ _ HL.out.ma (Nat.lt_of_le_of_lt (sub_le _ _) hx64) HL.out.la wr HRA7.out
            cases htb : x.testBit k
            · rw [(and_pow_zero x k).2 htb] at z3
              have HG2 : Hid (x ≤ cm ∧ greedy (hq al) k x = greedy (hq al) n cm) := ⟨HG.out.1, (greedy_keep htb).symm.trans HG.out.2⟩
              go_wp2_with fail
              go_roundg k
              case measure => omega
              case rel => exact ⟨k, x, by first | rfl | go_num, rfl, by omega, Nat.le_refl _, HG2, rfl⟩
            · have z9 : (((x &&& 2 ^ k : Nat) : Int) == 0) = false := by
                have : x &&& 2 ^ k ≠ 0 := fun e => by rw [(and_pow_zero x k).1 e] at htb; cases htb
                simp only [beq_eq_false_iff_ne, ne_eq, Int.natCast_eq_zero]
                exact this
              cases hHx : hq al (sub x (2 ^ k))
              · rw [hHx] at HCQ2
                have HG2 : Hid (x ≤ cm ∧ greedy (hq al) k x = greedy (hq al) n cm) := ⟨HG.out.1, (greedy_need htb hHx).symm.trans HG.out.2⟩
                clear hHx
                generalize sub x (2 ^ k) = y at *
                generalize x &&& 2 ^ k = u at *
                go_wp2_with fail
                refine HCQ2.out.mono ?_
                rintro e w8 ⟨rfl, hw8⟩
                subst hw8
                go_wp2_with fail
                go_roundg k
                case measure => omega
                case rel => exact ⟨k, x, by first | rfl | go_num, rfl, by omega, Nat.le_refl _, HG2, rfl⟩
              · rw [hHx] at HCQ2
                have HG2 : Hid (sub x (2 ^ k) ≤ cm ∧ greedy (hq al) k (sub x (2 ^ k)) = greedy (hq al) n cm) := ⟨Nat.le_trans (sub_le _ _) HG.out.1, (greedy_drop htb hHx).symm.trans HG.out.2⟩
                clear hHx
                generalize sub x (2 ^ k) = y at *
                generalize x &&& 2 ^ k = u at *
                go_wp2_with fail
                refine HCQ2.out.mono ?_
                rintro e w8 ⟨rfl, hw8⟩
                subst hw8
                go_wp2_with fail
                go_roundg k
                case measure => omega
                case rel => exact ⟨k, y, by first | rfl | go_num, rfl, by omega, Nat.le_refl _, HG2, rfl⟩
      · have hlt2 : i < i0 := by omega
        rw [HF.out i hlt hlt2] at HCQ
        generalize sub (full n) al[i] = cm at *
        generalize al[i] = z at *
        go_wp2_with fail
        refine HCQ.out.mono ?_
        rintro e w6 ⟨rfl, hw6⟩
        subst hw6
        go_wp2_with fail
        go_roundg (i0 + 1 - (i + 1))
        case measure => omega
        case rel => exact ⟨i + 1, by go_num, by omega, Nat.le_refl _, rfl⟩

end Go.Proofs.YbulkdczqFmt
