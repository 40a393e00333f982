/-
  THE WALK of LawS5216CWitness (4).
-/
import Derived.Test.YbulkdczqFmtModel
namespace Go.Proofs.YbulkdczqFmt
open Go.RowKit

set_option maxRecDepth 100000 in
set_option maxHeartbeats 400000 in
theorem wit_long (N : Int) (p q : Option Addr) (n c m d : Nat) (w : World) (h : 300 < n ∨ 300 < m) :
    Calls Ybaf.prog 4 #[.int .u8 N, .slice p n c, .slice q m d] w fun e w' => e = .returned (.bool true) ∧ Below w.heap.size w w' := by
  by_cases h1 : 300 < n
  · have h1' : (300 : Int) < n := by omega
    clear h
    go_enter Ybaf.func4, Ybaf.ntmps4
    go_wp2
    go_ret
    exact ⟨rfl, Below.refl _ _⟩
  · have h1' : ¬ (300 : Int) < n := by omega
    have h2' : (300 : Int) < m := by omega
    clear h
    go_enter Ybaf.func4, Ybaf.ntmps4
    go_wp2
    go_ret
    exact ⟨rfl, Below.refl _ _⟩

set_option maxRecDepth 100000 in
set_option maxHeartbeats 3200000 in
theorem wit_any (N : Nat) (hN : N < 256) (p q : Option Addr) (c d : Nat) (A B : List Nat) (hA : A.length ≤ 300) (hB : B.length ≤ 300) (a8 : ∀ x ∈ A, x < 256) (b8 : ∀ x ∈ B, x < 256) (w : World) (hp : Bytes w p A) (hq' : Bytes w q B) :
    Calls Ybaf.prog 4 #[.int .u8 N, .slice p A.length c, .slice q B.length d] w fun e w' => e = .returned (.bool true) ∧ Below w.heap.size w w' := by
  have k1 : ¬ (300 : Int) < (A.length : Nat) := by omega
  have k2 : ¬ (300 : Int) < (B.length : Nat) := by omega
  obtain ⟨n, hn⟩ : ∃ n, n = N % 8 + 1 := ⟨_, rfl⟩
  have h1 : 1 ≤ n := by omega
  have h2 : n ≤ 8 := by omega
  have m0 : (N : Int).tmod 8 = (n : Int) - 1 := by rw [Int.tmod_eq_emod_of_nonneg (by omega)]; omega
  have m1 : (1 : Int) ≤ n := by omega
  have m2 : (n : Int) ≤ 8 := by omega
  have m3 := pw n (by omega)
  have m4 := b_full n h2
  clear hn
  have HMA : Hid (∀ w', Below w.heap.size w w' → Calls Ybaf.prog 5 #[.slice p A.length c, .int .u64 (full n)] w' fun e w'' => ∃ a' c', e = .returned (.slice a' (masks (full n) A).length c') ∧ Row w'' a' (masks (full n) A) ∧ Below w'.heap.size w' w'') := fun w' hb => masks_any p c (full n) A hA a8 (full_lt n h2) w' (hp.below hb (Nat.le_refl _))
  have HMB : Hid (∀ w', Below w.heap.size w w' → Calls Ybaf.prog 5 #[.slice q B.length d, .int .u64 (full n)] w' fun e w'' => ∃ a' c', e = .returned (.slice a' (masks (full n) B).length c') ∧ Row w'' a' (masks (full n) B) ∧ Below w'.heap.size w' w'') := fun w' hb => masks_any q d (full n) B hB b8 (full_lt n h2) w' (hq'.below hb (Nat.le_refl _))
  have hL : Lists (masks (full n) A) (masks (full n) B) := masks_lists hA hB a8 b8
  clear hp hq' a8 b8
  generalize masks (full n) A = al at *
  generalize masks (full n) B = bl at *
  have HL : Hid (Lists al bl) := hL
  have hla := hL.la
  have hlb := hL.lb
  clear hL
  go_enter Ybaf.func4, Ybaf.ntmps4
  go_wp2_with fail
  refine (HMA.out _ (Below.refl _ _)).mono ?_
  rintro e w1 ⟨aa, ca, rfl, hra, hb1⟩
  have HRA : Hid (Row w1 aa al) := hra
  have HB1 : Hid (Below w.heap.size w w1) := hb1
  clear hra hb1
  go_wp2_with fail
  refine (HMB.out _ HB1.out).mono ?_
  rintro e w2 ⟨ba, cb, rfl, hrb, hb2⟩
  have HRA2 : Hid (Row w2 aa al) := HRA.out.below hb2 (Nat.le_refl _)
  have HRB2 : Hid (Row w2 ba bl) := hrb
  have HB2 : Hid (Below w.heap.size w w2) := HB1.out.trans (hb2.mono HB1.out.size)
  clear hrb hb2 HRA HB1 HMA HMB
  go_wp2_with fail
  have HS4 : Hid ((w2.alloc (.cells #[.int .i64 n, .slice aa al.length ca, .slice ba bl.length cb, .slice none 0 0] 31)).heap[w2.heap.size]? = some (.cells #[.int .i64 n, .slice aa al.length ca, .slice ba bl.length cb, .slice none 0 0] 31 (0, 0))) := heap_alloc_new w2 _
  have HB4 : Hid (Below w2.heap.size w2 (w2.alloc (.cells #[.int .i64 n, .slice aa al.length ca, .slice ba bl.length cb, .slice none 0 0] 31))) := (Below.refl _ w2).alloc (Nat.le_refl _) _
  generalize w2.alloc (.cells #[.int .i64 n, .slice aa al.length ca, .slice ba bl.length cb, .slice none 0 0] 31) = w4 at *
  have HRA4 : Hid (Row w4 aa al) := HRA2.out.below HB4.out (Nat.le_refl _)
  have HRB4 : Hid (Row w4 ba bl) := HRB2.out.below HB4.out (Nat.le_refl _)
  refine (enum_any w2.heap.size n al bl HL.out true aa ba ca cb h1 h2 w4 HS4.out HRA4.out HRB4.out).mono ?_
  rintro e w5 ⟨hNt, hres⟩
  have HRA5 : Hid (Row w5 aa al) := HRA4.out.noted HS4.out hNt.block
  have HRB5 : Hid (Row w5 ba bl) := HRB4.out.noted HS4.out hNt.block
  have HB5 : Hid (Below w.heap.size w w5) := after_noted HB2.out HB4.out hNt (Nat.le_refl _)
  clear hNt HS4 HB4 HRA4 HRB4 HRA2 HRB2 HB2
  rcases hres with ⟨hf, rfl⟩ | ⟨a, ga, xa, gb, xb, hf, rfl, hWa, hWb⟩
  · have HF : Hid (∀ i, (hi : i < al.length) → hq bl (sub (full n) al[i]) = false) := find_out hf
    clear hf
    go_wp2_with fail
    have HB7 : Hid (Below w5.heap.size w5 ((w5.alloc (.cells #[.int .i64 0, .slice none 0 0] 36)).alloc (.cells #[.int .i64 0, .slice none 0 0] 36))) := ((Below.refl _ w5).alloc (Nat.le_refl _) _).alloc (by simp) _
    generalize (w5.alloc (.cells #[.int .i64 0, .slice none 0 0] 36)).alloc (.cells #[.int .i64 0, .slice none 0 0] 36) = W7 at *
    have HRA7 : Hid (Row W7 aa al) := HRA5.out.below HB7.out (Nat.le_refl _)
    have HRB7 : Hid (Row W7 ba bl) := HRB5.out.below HB7.out (Nat.le_refl _)
    have HBF : Hid (Below w.heap.size w W7) := HB5.out.trans (HB7.out.mono HB5.out.size)
    clear HRA5 HRB5 HB5 HB7
    go_loopg [64] al.length (fun kx s wr => ∃ i : Nat, s = .int .i64 i ∧ i ≤ al.length ∧ al.length - i ≤ kx ∧ wr = W7)
    case atStart => exact ⟨0, rfl, Nat.zero_le _, by omega, rfl⟩
    case round =>
      obtain ⟨i, rfl, hi, hgk, rfl⟩ := hrel
      by_cases hlt : i < al.length
      · obtain ⟨b, o, rfl, hc⟩ := HRA7.out.resolve_left (fun e => by rw [e] at hlt; simp at hlt)
        have c1 := hc i hlt
        have ha64 : al[i] < 2 ^ 64 := HL.out.ma _ (List.getElem_mem _)
        have e1 := b_comp n al[i] h2 ha64
        have y1 : (i : Int) < (al.length : Int) := by omega
        have y0 : (0 : Int) ≤ (i : Int) := by omega
        have HCQ : Hid (Calls Ybaf.prog 7 #[.slice ba bl.length cb, .int .u64 (sub (full n) al[i])] wr fun e w' => e = .returned (.bool (hq bl (sub (full n) al[i]))) ∧ w' = wr) := chq_any _ _ _ _ HL.out.mb (Nat.lt_of_le_of_lt (sub_le _ _) (full_lt n h2)) HL.out.lb wr HRB7.out
        rw [HF.out i hlt] at HCQ
        clear hc
        generalize sub (full n) al[i] = cm at *
        generalize al[i] = z at *
        go_wp2_with fail
        refine HCQ.out.mono ?_
        rintro e w6 ⟨rfl, hw6⟩
        subst hw6
        go_wp2_with fail
        go_roundg (al.length - (i + 1))
        case measure => omega
        case rel => exact ⟨i + 1, by go_num, by omega, Nat.le_refl _, rfl⟩
      · have y2 : ¬ (i : Int) < (al.length : Int) := by omega
        go_wp2_with fail
        go_ret
        exact ⟨rfl, HBF.out⟩
  · obtain ⟨i0, hi0, rfl, hin, hbef⟩ := find_in hf
    have ha64 : al[i0] < 2 ^ 64 := HL.out.ma _ (List.getElem_mem _)
    have hc64 : sub (full n) al[i0] < 2 ^ 64 := Nat.lt_of_le_of_lt (sub_le _ _) (full_lt n h2)
    have hg64 : greedy (hq bl) n (sub (full n) al[i0]) < 2 ^ 64 := Nat.lt_of_le_of_lt (greedy_le _ _ _) hc64
    have hbits := fun (j : Nat) (hb : (greedy (hq bl) n (sub (full n) al[i0])).testBit j = true) => greedy_bits (hq bl) n (sub (full n) al[i0]) (by omega) hc64 j hb
    have HAP : Hid (greedy (hq bl) n (sub (full n) al[i0]) &&& al[i0] = 0) := sub_apart (full n) al[i0] _ (full_lt n h2) ha64 hbits
    have HWI : Hid (sub (greedy (hq bl) n (sub (full n) al[i0])) (full n) = 0) := sub_within (full n) al[i0] _ (full_lt n h2) ha64 hg64 hbits
    have HHQ : Hid (hq bl (greedy (hq bl) n (sub (full n) al[i0])) = true) := greedy_holds _ _ _ hin
    have HMIN : Hid (∀ j, j < n → (greedy (hq bl) n (sub (full n) al[i0])).testBit j = true → hq bl (sub (greedy (hq bl) n (sub (full n) al[i0])) (2 ^ j)) = false) := fun j hj hb => greedy_min (hq bl) (fun x y hx hy hs hh => hq_mono HL.out.mb hx hy hs hh) n _ (by omega) hc64 j hj hb
    have HWA : Hid (Word w5 ga al[i0]) := hWa
    have HWB : Hid (Word w5 gb (greedy (hq bl) n (sub (full n) al[i0]))) := hWb
    clear hf hin hbef hWa hWb hbits hc64
    generalize greedy (hq bl) n (sub (full n) al[i0]) = gq at *
    unfold setV
    go_wp2_with fail
    have HB7 : Hid (Below w5.heap.size w5 ((w5.alloc (.cells #[.int .i64 n, .slice (some ⟨ga, 0, none⟩) 1 xa] 36)).alloc (.cells #[.int .i64 n, .slice (some ⟨gb, 0, none⟩) 1 xb] 36))) := ((Below.refl _ w5).alloc (Nat.le_refl _) _).alloc (by simp) _
    have HX0 : Hid (((w5.alloc (.cells #[.int .i64 n, .slice (some ⟨ga, 0, none⟩) 1 xa] 36)).alloc (.cells #[.int .i64 n, .slice (some ⟨gb, 0, none⟩) 1 xb] 36)).heap[w5.heap.size]? = some (.cells #[.int .i64 n, .slice (some ⟨ga, 0, none⟩) 1 xa] 36 (0, 0))) := heap_alloc2_fst w5 _ _
    have HX1 : Hid (((w5.alloc (.cells #[.int .i64 n, .slice (some ⟨ga, 0, none⟩) 1 xa] 36)).alloc (.cells #[.int .i64 n, .slice (some ⟨gb, 0, none⟩) 1 xb] 36)).heap[w5.heap.size + 1]? = some (.cells #[.int .i64 n, .slice (some ⟨gb, 0, none⟩) 1 xb] 36 (0, 0))) := heap_alloc2_new w5 _ _
    generalize (w5.alloc (.cells #[.int .i64 n, .slice (some ⟨ga, 0, none⟩) 1 xa] 36)).alloc (.cells #[.int .i64 n, .slice (some ⟨gb, 0, none⟩) 1 xb] 36) = W7 at *
    have HRA7 : Hid (Row W7 aa al) := HRA5.out.below HB7.out (Nat.le_refl _)
    have HRB7 : Hid (Row W7 ba bl) := HRB5.out.below HB7.out (Nat.le_refl _)
    have HBF : Hid (Below w.heap.size w W7) := HB5.out.trans (HB7.out.mono HB5.out.size)
    have HWA7 : Hid (Word W7 ga al[i0]) := HWA.out.below HB7.out HWA.out.lt
    have HWB7 : Hid (Word W7 gb gq) := HWB.out.below HB7.out HWB.out.lt
    have l7 : w5.heap.size + 1 < W7.heap.size := (Array.getElem?_eq_some_iff.1 HX1.out).1
    have HM1 : Hid (∀ w', Below W7.heap.size W7 w' → Calls Ybaf.prog 8 #[.agg #[.int .i64 n, .slice (some ⟨ga, 0, none⟩) 1 xa]] w' fun e w'' => e = .returned (.int .u64 al[i0]) ∧ ∃ o, w'' = w'.alloc o) := fun w' hb => mask_any n ga xa _ w' (HWA7.out.below hb HWA7.out.lt).cell
    have HM2 : Hid (∀ w', Below W7.heap.size W7 w' → Calls Ybaf.prog 8 #[.agg #[.int .i64 n, .slice (some ⟨gb, 0, none⟩) 1 xb]] w' fun e w'' => e = .returned (.int .u64 gq) ∧ ∃ o, w'' = w'.alloc o) := fun w' hb => mask_any n gb xb _ w' (HWB7.out.below hb HWB7.out.lt).cell
    have x0 : W7.cell? ⟨w5.heap.size, 0, none⟩ = some (.int .i64 n) := (Lib.cell_of_heap HX0.out 0).trans rfl
    have x1 : W7.cell? ⟨w5.heap.size, 1, none⟩ = some (.slice (some ⟨ga, 0, none⟩) 1 xa) := (Lib.cell_of_heap HX0.out 1).trans rfl
    have x2 : W7.cell? ⟨w5.heap.size + 1, 0, none⟩ = some (.int .i64 n) := (Lib.cell_of_heap HX1.out 0).trans rfl
    have x3 : W7.cell? ⟨w5.heap.size + 1, 1, none⟩ = some (.slice (some ⟨gb, 0, none⟩) 1 xb) := (Lib.cell_of_heap HX1.out 1).trans rfl
    have l8 : w5.heap.size < W7.heap.size := by omega
    have BL0 : Hid (Below W7.heap.size W7 W7.drew) := below_drew (Below.refl _ _)
    have BL1 : Hid (∀ o, Below W7.heap.size W7 (W7.alloc o).drew) := fun o => below_drew ((Below.refl _ _).alloc (Nat.le_refl _) _)
    clear HRA5 HRB5 HB5 HB7 HX0 HX1 HWA HWB
    obtain ⟨a0, ha0⟩ : ∃ a0, a0 = al[i0] := ⟨_, rfl⟩
    rw [← ha0] at HAP HM1 ha64
    have HA0 : Hid (a0 = al[i0]) := ha0
    clear ha0 HWA7 HWB7
    go_region_with (first | (go_at_call_of 8 (some (⟨ga, 0, none⟩ : Addr)); refine (HM1.out _ ?_).mono ?_; (first | exact BL0.out | exact BL1.out _); rintro e w8 ⟨rfl, o8, rfl⟩) | (go_at_call_of 8 (some (⟨gb, 0, none⟩ : Addr)); refine (HM2.out _ ?_).mono ?_; (first | exact BL0.out | exact BL1.out _); rintro e w8 ⟨rfl, o9, rfl⟩))
    all_goals
      go_wp2_with fail
      have HB9 : Hid (Below W7.heap.size W7 ((W7.alloc o8).alloc o9).drew) := below_drew (((Below.refl _ W7).alloc (Nat.le_refl _) _).alloc (by simp) _)
      generalize ((W7.alloc o8).alloc o9).drew = W9 at *
      have HRA9 : Hid (Row W9 aa al) := HRA7.out.below HB9.out (Nat.le_refl _)
      have HRB9 : Hid (Row W9 ba bl) := HRB7.out.below HB9.out (Nat.le_refl _)
      have HBF9 : Hid (Below w.heap.size w W9) := HBF.out.trans (HB9.out.mono HBF.out.size)
      clear HRA7 HRB7 HBF HB9 HM1 HM2 BL0 BL1 x0 x1 x2 x3
      go_loopg [19, 80] al.length (fun kx s19 s80 wr => ∃ (i : Nat) (ls : Bool), s80 = .int .i64 i ∧ i ≤ al.length ∧ al.length - i ≤ kx ∧ s19 = .bool ls ∧ (i0 < i → ls = true) ∧ wr = W9)
      case atStart => exact ⟨0, false, rfl, Nat.zero_le _, by omega, rfl, fun h => by omega, rfl⟩
      case round =>
        obtain ⟨i, ls, rfl, hi, hgk, rfl, hls, rfl⟩ := hrel
        have HLS : Hid (i0 < i → ls = true) := hls
        clear hls
        by_cases hlt : i < al.length
        · obtain ⟨b, o, rfl, hc⟩ := HRA9.out.resolve_left (fun e => by rw [e] at hlt; simp at hlt)
          have c1 := hc i hlt
          have y1 : (i : Int) < (al.length : Int) := by omega
          have y0 : (0 : Int) ≤ (i : Int) := by omega
          clear hc
          by_cases hz : al[i] = a0
          · have y3 : ((al[i] : Int) == (a0 : Int)) = true := by rw [hz]; exact beq_self_int _
            clear hz
            generalize al[i] = z at *
            go_wp2_with fail
            go_roundg (al.length - (i + 1))
            case measure => omega
            case rel => exact ⟨i + 1, true, by go_num, by omega, Nat.le_refl _, rfl, fun _ => rfl, rfl⟩
          · have y3 : ((al[i] : Int) == (a0 : Int)) = false := by
              simp only [beq_eq_false_iff_ne, ne_eq, Int.natCast_inj]
              exact hz
            have HNI : Hid (i ≠ i0) := fun e => hz (by subst e; exact HA0.out.symm)
            clear hz
            generalize al[i] = z at *
            go_wp2_with fail
            go_roundg (al.length - (i + 1))
            case measure => omega
            case rel => exact ⟨i + 1, ls, by go_num, by omega, Nat.le_refl _, rfl, fun h => HLS.out (by have := HNI.out; omega), rfl⟩
        · have y2 : ¬ (i : Int) < (al.length : Int) := by omega
          obtain rfl : ls = true := HLS.out (by omega)
          have z5 : bits .and .u64 (a0 : Int) (gq : Int) = 0 := by rw [u64_and_nat _ _ ha64 hg64, Nat.and_comm, HAP.out]; rfl
          have z6 : bits .andNot .u64 (gq : Int) ((full n : Nat) : Int) = 0 := by
            have e := u64_andNot_nat gq (full n) hg64 (full_lt n h2)
            rw [e]
            have e2 : gq &&& (18446744073709551615 - full n) = 0 := HWI.out
            rw [e2]; rfl
          have HCB : Hid (Calls Ybaf.prog 7 #[.slice ba bl.length cb, .int .u64 gq] wr fun e w' => e = .returned (.bool true) ∧ w' = wr) := by
            have := chq_any ba cb gq bl HL.out.mb hg64 HL.out.lb wr HRB9.out
            rw [HHQ.out] at this
            exact this
          go_wp2_with fail
          refine HCB.out.mono ?_
          rintro e w8 ⟨rfl, hw8⟩
          subst hw8
          go_wp2_with fail
          go_loopg [22] n (fun kx s22 wr => ∃ k : Nat, s22 = .int .i64 k ∧ k ≤ n ∧ n - k ≤ kx ∧ wr = w8)
          case atStart => exact ⟨0, rfl, Nat.zero_le _, by omega, rfl⟩
          case round =>
            obtain ⟨k, rfl, hkn, hkx, rfl⟩ := hrel
            by_cases hkl : k < n
            · have z0 : (0 : Int) ≤ (k : Int) := by omega
              have z1 : (k : Int) ≤ 7 := by omega
              have z7 : (k : Int) < (n : Int) := by omega
              have z2 := pw k (by omega)
              have z3 := b_and gq k hg64 (by omega)
              have z4 := b_not gq k hg64 (by omega)
              cases htb : gq.testBit k
              · rw [(and_pow_zero gq k).2 htb] at z3
                go_wp2_with fail
                go_roundg (n - (k + 1))
                case measure => omega
                case rel => exact ⟨k + 1, by go_num, by omega, Nat.le_refl _, rfl⟩
              · have z9 : (((gq &&& 2 ^ k : Nat) : Int) != 0) = true := by rw [ne_bit]; exact htb
                have HCQ2 : Hid (Calls Ybaf.prog 7 #[.slice ba bl.length cb, .int .u64 (sub gq (2 ^ k))] wr fun e w' => e = .returned (.bool false) ∧ w' = wr) := by
                  have := chq_any ba cb (sub gq (2 ^ k)) bl HL.out.mb (Nat.lt_of_le_of_lt (sub_le _ _) hg64) HL.out.lb wr HRB9.out
                  rw [HMIN.out k hkl htb] at this
                  exact this
                generalize sub gq (2 ^ k) = y at *
                generalize gq &&& 2 ^ k = u at *
                go_wp2_with fail
                refine HCQ2.out.mono ?_
                rintro e w10 ⟨rfl, hw10⟩
                subst hw10
                go_wp2_with fail
                go_roundg (n - (k + 1))
                case measure => omega
                case rel => exact ⟨k + 1, by go_num, by omega, Nat.le_refl _, rfl⟩
            · have z7 : ¬ (k : Int) < (n : Int) := by omega
              go_wp2_with fail
              go_ret
              exact ⟨rfl, HBF9.out⟩
end Go.Proofs.YbulkdczqFmt
