/-
  THE WALK of LawS5215BStop (4).
-/
import Derived.Test.YbulkdczcFmtLawAll
namespace Go.Proofs.YbulkdczcFmt
open Go.RowKit

theorem first_cell (w : World) (v : Value) (t : TypeId) (o2 o3 : Obj) : (((w.alloc (.cells #[v] t)).alloc o2).alloc o3).cell? ⟨w.heap.size, 0, none⟩ = some v := by
  have h : (((w.alloc (.cells #[v] t)).alloc o2).alloc o3).heap[w.heap.size]? = some (.cells #[v] t) := by
    show (((w.heap.push _).push o2).push o3)[w.heap.size]? = _
    rw [Array.getElem?_push, if_neg (by simp; omega), Array.getElem?_push, if_neg (by simp), Array.getElem?_push, if_pos rfl]
  rw [Lib.cell_of_heap h]; rfl

/-- A listing that the yield stops: the first items, k + 1 of them or all. -/
theorem list_stop (gb kb sb k : Nat) (eg : ∀ args w, (callFunc 10 args).run Ybaf.prog w = .ok (.enter 10 args) w)
    (U : List Int) (hU : U.length ≤ 1024) (h64 : ∀ v ∈ U, in64 v) (W0 : World)
    (hgb : W0.heap[gb]? = some (.cells #[.slice none 0 0] 22 (0, 0))) (hsb : W0.cell? ⟨sb, 0, none⟩ = some (.string (strS U))) (hne : sb ≠ gb) (hkc : W0.cell? ⟨kb, 0, none⟩ = some (.int .i64 k)) (hkg : kb ≠ gb) :
    Calls Ybaf.prog 15 #[.func (.func 10) #[] #[.pointer (some ⟨gb, 0, none⟩), .pointer (some ⟨kb, 0, none⟩)], .pointer (some ⟨sb, 0, none⟩)] W0 fun e w' => e = .returned (.tuple #[]) ∧ Inv W0.heap.size gb W0 (U.take (min U.length (k + 1))) w' := by
  have hsl : sb < W0.heap.size := World.block_lt_of_cell? (h := hsb)
  have hkl : kb < W0.heap.size := World.block_lt_of_cell? (h := hkc)
  have h := all1_any 10 #[.pointer (some ⟨gb, 0, none⟩), .pointer (some ⟨kb, 0, none⟩)] eg sb U hU h64 (fun j w => Inv W0.heap.size gb W0 (U.take j) w) (fun j w hI => (hI.cell hsl hne).trans hsb) (fun j w n hI => hI.drewN n) (fun i => decide (i + 1 ≤ k))
    (fun j hj w hI => by
      have := clos10 W0.heap.size gb W0 (U.take j) U[j] w hI (by rw [List.length_take]; omega) kb k hkl hkg hkc
      rw [take_snoc U j hj, List.length_take, Nat.min_eq_left (by omega)] at this
      exact this) W0 (inv_start gb W0 hgb)
  rw [stopAt_le k _ 0 (Nat.zero_le _), Nat.zero_add] at h
  exact h

set_option maxHeartbeats 400000 in
theorem stop_long (a : Option Addr) (n c : Nat) (s : Int) (hn : 1024 < n) (w : World) : Calls Ybaf.prog 4 #[.slice a n c, .int .u8 s] w fun e w' => e = .returned (.bool true) ∧ Below w.heap.size w w' := by
  have h2 : (1024 : Int) < (n : Int) := by omega
  go_enter Ybaf.func4, Ybaf.ntmps4
  go_wp2
  go_ret
  exact ⟨rfl, Below.refl _ _⟩

set_option maxHeartbeats 2000000 in
set_option maxRecDepth 100000 in
theorem lawStop_any (a : Option Addr) (c : Nat) (zs : List Int) (st : Nat) (hst : st < 256) (w : World) (hin : IsIn w a zs) (hlen : zs.length ≤ 1024) (h64 : ∀ v ∈ zs, in64 v) :
    Calls Ybaf.prog 4 #[.slice a zs.length c, .int .u8 st] w fun e w' => e = .returned (.bool true) ∧ Below w.heap.size w w' := by
  have h2 : ¬ (1024 : Int) < (zs.length : Int) := by omega
  have eg9 : ∀ args w, (callFunc 9 args).run Ybaf.prog w = .ok (.enter 9 args) w := enters_of Ybaf.func9 (by kernel_rfl) rfl
  have eg10 : ∀ args w, (callFunc 10 args).run Ybaf.prog w = .ok (.enter 10 args) w := enters_of Ybaf.func10 (by kernel_rfl) rfl
  have hul := uniq_len zs
  have H64 : Hid (∀ v ∈ uniq zs, in64 v) := fun v hv => h64 v ((uniq_mem zs v).1 hv)
  have HS : Hid (Calls Ybaf.prog 5 #[.slice a zs.length c] w fun e w' => e = .returned (.agg #[.string (strS (uniq zs))]) ∧ Below w.heap.size w w') := setOf_any a c zs w hin hlen
  clear hin h64
  generalize uniq zs = U at *
  go_enter Ybaf.func4, Ybaf.ntmps4
  go_wp2_with fail
  refine HS.out.mono ?_
  rintro e w1 ⟨rfl, hb1⟩
  have HB1 : Hid (Below w.heap.size w w1) := hb1
  have hz1 : w.heap.size ≤ w1.heap.size := hb1.size
  clear hb1 HS
  go_wp2_with fail
  refine (all_any (strS U) _).mono ?_
  rintro e w2 ⟨rfl, hw2⟩
  subst hw2
  go_wp2_with fail
  have hsz3 : (((w1.alloc (Obj.cells #[Value.string (strS U)] 25)).alloc (Obj.cells #[Value.slice none 0 0] 22)).alloc (Obj.cells #[Value.string (strS U)] 25)).heap.size = w1.heap.size + 3 := by simp
  have hB3 : Below w1.heap.size w1 (((w1.alloc (Obj.cells #[Value.string (strS U)] 25)).alloc (Obj.cells #[Value.slice none 0 0] 22)).alloc (Obj.cells #[Value.string (strS U)] 25)) := (((Below.refl _ w1).alloc (Nat.le_refl _) _).alloc (by simp) _).alloc (by simp; omega) _
  have hb5 : (((w1.alloc (Obj.cells #[Value.string (strS U)] 25)).alloc (Obj.cells #[Value.slice none 0 0] 22)).alloc (Obj.cells #[Value.string (strS U)] 25)).cell? ⟨w1.heap.size, 0, none⟩ = some (.string (strS U)) := first_cell w1 _ _ _ _
  refine (list_all 9 (w1.heap.size + 1) (w1.heap.size + 1 + 1) eg9 (fun N w0 xs x w h hl => clos9 N _ w0 xs x w h hl) U (by omega) H64.out _ (second_heap w1 _ _ _) (third_cell w1 _ _ _ _) (by omega)).mono ?_
  rintro e w3 ⟨rfl, hI3⟩
  rw [hsz3] at hI3
  have hs3 := hI3.2.1
  have HB3 : Hid (Below w.heap.size w w3) := HB1.out.trans ((hB3.mono hz1).trans (hI3.below (by omega) (by rw [hsz3]; exact hs3)))
  obtain ⟨ga, gc, cg, hcase⟩ := hI3.slice
  have HCS : Hid (U = [] ∨ ∃ g, ga = some ⟨g, 0, none⟩ ∧ Cells w3 g 0 U ∧ w1.heap.size + 3 ≤ g ∧ g < w3.heap.size) := hcase
  have c5 : w3.cell? ⟨w1.heap.size, 0, none⟩ = some (.string (strS U)) := (hI3.cell (by omega) (by omega)).trans hb5
  have lt0 : w1.heap.size < w3.heap.size := by omega
  have lt1 : w1.heap.size + 1 < w3.heap.size := by omega
  have c5b : ∀ o1 o2, ((w3.alloc o1).alloc o2).cell? ⟨w1.heap.size, 0, none⟩ = some (.string (strS U)) := fun o1 o2 => Lib.cell?_alloc_some _ (Lib.cell?_alloc_some _ c5)
  clear hI3 hsz3 hB3 hcase hb5
  go_wp2_with fail
  obtain ⟨k, hk⟩ : ∃ k : Nat, k = st % (U.length + 1) := ⟨_, rfl⟩
  have hkI : (st : Int) % ((U.length : Int) + 1) = (k : Int) := by subst hk; rw [Int.natCast_emod]; rfl
  have hkn : k ≤ U.length := by subst hk; have := Nat.mod_lt st (show 0 < U.length + 1 by omega); omega
  rw [hkI]
  clear hkI hk
  refine (all_any (strS U) _).mono ?_
  rintro e w4 ⟨rfl, hw4⟩
  subst hw4
  go_wp2_with fail
  have hsz5 : (((w3.alloc (Obj.cells #[Value.int IntKind.i64 k] 3)).alloc (Obj.cells #[Value.slice none 0 0] 22)).alloc (Obj.cells #[Value.string (strS U)] 25)).heap.size = w3.heap.size + 3 := by simp
  have hB5 : Below w3.heap.size w3 (((w3.alloc (Obj.cells #[Value.int IntKind.i64 k] 3)).alloc (Obj.cells #[Value.slice none 0 0] 22)).alloc (Obj.cells #[Value.string (strS U)] 25)) := (((Below.refl _ w3).alloc (Nat.le_refl _) _).alloc (by simp) _).alloc (by simp; omega) _
  have hk5 : (((w3.alloc (Obj.cells #[Value.int IntKind.i64 k] 3)).alloc (Obj.cells #[Value.slice none 0 0] 22)).alloc (Obj.cells #[Value.string (strS U)] 25)).cell? ⟨w3.heap.size, 0, none⟩ = some (.int .i64 k) := first_cell w3 _ _ _ _
  refine (list_stop (w3.heap.size + 1) w3.heap.size (w3.heap.size + 1 + 1) k eg10 U (by omega) H64.out _ (second_heap w3 _ _ _) (third_cell w3 _ _ _ _) (by omega) hk5 (by omega)).mono ?_
  rintro e w5 ⟨rfl, hI5⟩
  rw [hsz5] at hI5
  have hs5 := hI5.2.1
  have HB5 : Hid (Below w.heap.size w w5) := HB3.out.trans ((hB5.mono (by omega)).trans (hI5.below (by omega) (by rw [hsz5]; exact hs5)))
  obtain ⟨ha, hc, ch, hcase⟩ := hI5.slice
  have ck : w5.cell? ⟨w3.heap.size, 0, none⟩ = some (.int .i64 k) := (hI5.cell (by omega) (by omega)).trans hk5
  have cf : w5.cell? ⟨w1.heap.size + 1, 0, none⟩ = some (.slice ga U.length gc) := (hI5.cell (by omega) (by omega)).trans ((hB5.cell (p := ⟨w1.heap.size + 1, 0, none⟩) lt1).trans cg)
  have HFULL : Hid (U = [] ∨ ∃ g, ga = some ⟨g, 0, none⟩ ∧ Cells w5 g 0 U) := by
    rcases HCS.out with h | ⟨g, h1, h2', h3, h4⟩
    · exact Or.inl h
    · exact Or.inr ⟨g, h1, fun i hi => ((hI5.cell (by omega) (by omega)).trans (hB5.cell (p := ⟨g, 0 + i, none⟩) h4)).trans (h2' i hi)⟩
  have hm : (U.take (min U.length (k + 1))).length = min U.length (k + 1) := by rw [List.length_take]; omega
  rw [hm] at ch
  have HGOT : Hid (min U.length (k + 1) = 0 ∨ ∃ g, ha = some ⟨g, 0, none⟩ ∧ ∀ i (hU : i < U.length), i < min U.length (k + 1) → w5.cell? ⟨g, i, none⟩ = some (.int .i64 U[i])) := by
    rcases hcase with h | ⟨g, h1, h2', _⟩
    · left; rw [← hm, h]; rfl
    · right
      refine ⟨g, h1, fun i hU hi => ?_⟩
      have := h2' i (by rw [hm]; exact hi)
      rw [Nat.zero_add] at this
      rw [this, List.getElem_take]
  clear hI5 hB5 hsz5 hcase hk5 HCS HB3 hm cg c5 c5b
  by_cases hkk : U.length < k + 1
  · have hmin : min U.length (k + 1) = U.length := by omega
    rw [hmin] at ch HGOT
    have z1 : (U.length : Int) < (k : Int) + 1 := by omega
    have z2 : ((U.length : Int) != (U.length : Int)) = false := by simp
    go_wp2_with fail
    go_loopg [11] (U.length) (fun kx s wr => ∃ i : Nat, s = .int .i64 i ∧ i ≤ U.length ∧ U.length - i ≤ kx ∧ ∃ n, wr = w5.drewN n)
    case atStart => exact ⟨0, rfl, Nat.zero_le _, by omega, 0, rfl⟩
    case round =>
      obtain ⟨i, rfl, hi, hg, n, hwr⟩ := hrel
      have ch' : wr.cell? ⟨w3.heap.size + 1, 0, none⟩ = some (.slice ha (U.length) hc) := by rw [hwr]; exact ch
      have cf' : wr.cell? ⟨w1.heap.size + 1, 0, none⟩ = some (.slice ga U.length gc) := by rw [hwr]; exact cf
      by_cases hlt : i < U.length
      · have hiU : i < U.length := by omega
        obtain ⟨g1, hha, hgot⟩ : ∃ g, ha = some ⟨g, 0, none⟩ ∧ ∀ i (hU : i < U.length), i < U.length → w5.cell? ⟨g, i, none⟩ = some (.int .i64 U[i]) := by
          rcases HGOT.out with h | h
          · omega
          · exact h
        obtain ⟨g2, hga, hful⟩ : ∃ g, ga = some ⟨g, 0, none⟩ ∧ Cells w5 g 0 U := by
          rcases HFULL.out with h | h
          · rw [h] at hiU; simp at hiU
          · exact h
        have x1 : wr.cell? ⟨g1, i, none⟩ = some (.int .i64 U[i]) := by rw [hwr]; exact hgot i hiU hlt
        have x2 : wr.cell? ⟨g2, i, none⟩ = some (.int .i64 U[i]) := by have := hful i hiU; rw [Nat.zero_add] at this; rw [hwr]; exact this
        rw [hha] at ch'
        rw [hga] at cf'
        have HWR : Hid (wr = w5.drewN n) := hwr
        clear hwr hgot hful hha hga
        generalize U[i] = z at *
        have y1 : (i : Int) < (U.length : Int) := by omega
        have y2 : (i : Int) < (U.length : Int) := by omega
        have y3 : (z != z) = false := by simp
        go_wp2_with fail
        go_quiet (fail)
        go_wp2_with fail
        go_roundg (U.length - (i + 1))
        case measure => omega
        case rel => exact ⟨i + 1, by go_num, by omega, Nat.le_refl _, n + nq, by rw [HWR.out, World.drewN_drewN]⟩
      · have y2 : ¬ (i : Int) < (U.length : Int) := by omega
        have HB6 : Hid (Below w.heap.size w wr) := by show Below _ _ _; rw [hwr]; exact ⟨HB5.out.os, HB5.out.tape, HB5.out.output, HB5.out.size, HB5.out.block⟩
        clear hwr
        go_wp2_with fail
        go_ret
        exact ⟨rfl, HB6.out⟩
  · have hmin : min U.length (k + 1) = k + 1 := by omega
    rw [hmin] at ch HGOT
    have z1 : ¬ (U.length : Int) < (k : Int) + 1 := by omega
    have z2 : (((k : Int) + 1) != ((k : Int) + 1)) = false := by simp
    go_wp2_with fail
    go_loopg [11] (k + 1) (fun kx s wr => ∃ i : Nat, s = .int .i64 i ∧ i ≤ k + 1 ∧ k + 1 - i ≤ kx ∧ ∃ n, wr = w5.drewN n)
    case atStart => exact ⟨0, rfl, Nat.zero_le _, by omega, 0, rfl⟩
    case round =>
      obtain ⟨i, rfl, hi, hg, n, hwr⟩ := hrel
      have ch' : wr.cell? ⟨w3.heap.size + 1, 0, none⟩ = some (.slice ha (k + 1) hc) := by rw [hwr]; exact ch
      have cf' : wr.cell? ⟨w1.heap.size + 1, 0, none⟩ = some (.slice ga U.length gc) := by rw [hwr]; exact cf
      by_cases hlt : i < k + 1
      · have hiU : i < U.length := by omega
        obtain ⟨g1, hha, hgot⟩ : ∃ g, ha = some ⟨g, 0, none⟩ ∧ ∀ i (hU : i < U.length), i < k + 1 → w5.cell? ⟨g, i, none⟩ = some (.int .i64 U[i]) := by
          rcases HGOT.out with h | h
          · omega
          · exact h
        obtain ⟨g2, hga, hful⟩ : ∃ g, ga = some ⟨g, 0, none⟩ ∧ Cells w5 g 0 U := by
          rcases HFULL.out with h | h
          · rw [h] at hiU; simp at hiU
          · exact h
        have x1 : wr.cell? ⟨g1, i, none⟩ = some (.int .i64 U[i]) := by rw [hwr]; exact hgot i hiU hlt
        have x2 : wr.cell? ⟨g2, i, none⟩ = some (.int .i64 U[i]) := by have := hful i hiU; rw [Nat.zero_add] at this; rw [hwr]; exact this
        rw [hha] at ch'
        rw [hga] at cf'
        have HWR : Hid (wr = w5.drewN n) := hwr
        clear hwr hgot hful hha hga
        generalize U[i] = z at *
        have y1 : (i : Int) < (U.length : Int) := by omega
        have y2 : (i : Int) < (k : Int) + 1 := by omega
        have y3 : (z != z) = false := by simp
        go_wp2_with fail
        go_quiet (fail)
        go_wp2_with fail
        go_roundg (k + 1 - (i + 1))
        case measure => omega
        case rel => exact ⟨i + 1, by go_num, by omega, Nat.le_refl _, n + nq, by rw [HWR.out, World.drewN_drewN]⟩
      · have y2 : ¬ (i : Int) < (k : Int) + 1 := by omega
        have HB6 : Hid (Below w.heap.size w wr) := by show Below _ _ _; rw [hwr]; exact ⟨HB5.out.os, HB5.out.tape, HB5.out.output, HB5.out.size, HB5.out.block⟩
        clear hwr
        go_wp2_with fail
        go_ret
        exact ⟨rfl, HB6.out⟩

end Go.Proofs.YbulkdczcFmt
