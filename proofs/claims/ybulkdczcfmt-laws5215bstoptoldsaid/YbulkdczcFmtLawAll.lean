/-
  THE WALKS of zzs5215bhas (8) and LawS5215BAll (3).
-/
import Derived.Test.YbulkdczcFmtYield
namespace Go.Proofs.YbulkdczcFmt
open Go.RowKit

set_option maxHeartbeats 400000 in
theorem has_true (b o c : Nat) (xs : List Int) (v : Int) (w : World) (hc : Cells w b o xs) (hlen : xs.length ≤ 2000) (hv : v ∈ xs) :
    Calls Ybaf.prog 8 #[.slice (some ⟨b, o, none⟩) xs.length c, .int .i64 v] w fun e w' => e = .returned (.bool true) ∧ w' = w := by
  obtain ⟨j, hj, hjv⟩ := List.getElem_of_mem hv
  have HC : Hid (Cells w b o xs) := hc
  have HJ : Hid (xs[j] = v) := hjv
  clear hc hv hjv
  go_enter Ybaf.func8, Ybaf.ntmps8
  go_wp2_with fail
  go_loopg [9] xs.length (fun kx s wr => ∃ i : Nat, s = .int .i64 i ∧ i ≤ j ∧ xs.length - i ≤ kx ∧ w = wr)
  case atStart => exact ⟨0, rfl, Nat.zero_le _, by omega, rfl⟩
  case round =>
    obtain ⟨i, rfl, hi, hg, rfl⟩ := hrel
    have hlt : i < xs.length := by omega
    have c1 := HC.out i hlt
    by_cases hx : xs[i] = v
    · have hb : (xs[i] == v) = true := beq_iff_eq.2 hx
      clear hx
      generalize xs[i] = x at *
      go_wp2_with fail
      go_ret
      exact ⟨rfl, rfl⟩
    · have hb : (xs[i] == v) = false := beq_eq_false_iff_ne.2 hx
      have hne : i ≠ j := fun e => hx (by subst e; exact HJ.out)
      clear hx
      generalize xs[i] = x at *
      go_wp2_with fail
      go_roundg (xs.length - (i + 1))
      case measure => omega
      case rel => exact ⟨i + 1, by go_num, by omega, Nat.le_refl _, rfl⟩

/-- What the variable holds, at the end of a listing. -/
theorem Inv.slice {N gb : Nat} {w0 w : World} {xs : List Int} (h : Inv N gb w0 xs w) : ∃ a cap, w.cell? ⟨gb, 0, none⟩ = some (.slice a xs.length cap) ∧ (xs = [] ∨ ∃ g, a = some ⟨g, 0, none⟩ ∧ Cells w g 0 xs ∧ N ≤ g ∧ g < w.heap.size) := by
  obtain ⟨_, _, _, _, _, _, v, hgb, hown⟩ := h
  have c0 : w.cell? ⟨gb, 0, none⟩ = some v := by rw [Lib.cell_of_heap hgb]; rfl
  rcases hown.2 with ⟨rfl, h0⟩ | ⟨g, cap, cur, rfl, hN, _⟩
  · refine ⟨none, 0, by rw [c0, h0], Or.inl (List.eq_nil_of_length_eq_zero h0)⟩
  · refine ⟨some ⟨g, 0, none⟩, cap, c0, Or.inr ⟨g, rfl, fun i hi => ?_, hN, (hown.lt g rfl).2⟩⟩
    have := hown.cells (g := g) rfl i (.int .i64 xs[i]) (by unfold ints; rw [List.getElem?_map, List.getElem?_eq_getElem hi]; rfl)
    rwa [Addr.add_lit] at this

set_option maxHeartbeats 400000 in
theorem all_long (a : Option Addr) (n c : Nat) (hn : 1024 < n) (w : World) : Calls Ybaf.prog 3 #[.slice a n c] w fun e w' => e = .returned (.bool true) ∧ Below w.heap.size w w' := by
  have h2 : (1024 : Int) < (n : Int) := by omega
  go_enter Ybaf.func3, Ybaf.ntmps3
  go_wp2
  go_ret
  exact ⟨rfl, Below.refl _ _⟩

theorem third_cell (w : World) (o1 o2 : Obj) (v : Value) (t : TypeId) : (((w.alloc o1).alloc o2).alloc (.cells #[v] t)).cell? ⟨w.heap.size + 1 + 1, 0, none⟩ = some v := by
  have h : (((w.alloc o1).alloc o2).alloc (.cells #[v] t)).heap[w.heap.size + 1 + 1]? = some (.cells #[v] t) := by
    show (((w.heap.push o1).push o2).push _)[w.heap.size + 1 + 1]? = _
    rw [Array.getElem?_push, if_pos (by simp)]
  rw [Lib.cell_of_heap h]; rfl

theorem second_heap (w : World) (o1 o2 o3 : Obj) : (((w.alloc o1).alloc o2).alloc o3).heap[w.heap.size + 1]? = some o2 := by
  show (((w.heap.push o1).push o2).push o3)[w.heap.size + 1]? = _
  rw [Array.getElem?_push, if_neg (by simp), Array.getElem?_push, if_pos (by simp)]

theorem take_snoc (U : List Int) (j : Nat) (h : j < U.length) : U.take j ++ [U[j]] = U.take (j + 1) := (List.take_succ_eq_append_getElem h).symm

theorem inv_start (gb : Nat) (W0 : World) (h : W0.heap[gb]? = some (.cells #[.slice none 0 0] 22 (0, 0))) : Inv W0.heap.size gb W0 [] W0 := by
  have hlt : gb < W0.heap.size := by
    rcases Nat.lt_or_ge gb W0.heap.size with h' | h'
    · exact h'
    · simp [Array.getElem?_eq_none h'] at h
  exact ⟨hlt, Nat.le_refl _, rfl, rfl, rfl, fun _ _ _ => rfl, _, h, World.ownsRow_nil _ _ _ _⟩

/-- A whole listing into a variable: the yield answers true. -/
theorem list_all (g gb sb : Nat) (eg : ∀ args w, (callFunc g args).run Ybaf.prog w = .ok (.enter g args) w)
    (hclos : ∀ (N : Nat) (w0 : World) (xs : List Int) (x : Int) (w : World), Inv N gb w0 xs w → xs.length ≤ 2000 → Calls Ybaf.prog g #[.int .i64 x, .pointer (some ⟨gb, 0, none⟩)] w fun e w' => e = .returned (.bool true) ∧ Inv N gb w0 (xs ++ [x]) w')
    (U : List Int) (hU : U.length ≤ 1024) (h64 : ∀ v ∈ U, in64 v) (W0 : World)
    (hgb : W0.heap[gb]? = some (.cells #[.slice none 0 0] 22 (0, 0))) (hsb : W0.cell? ⟨sb, 0, none⟩ = some (.string (strS U))) (hne : sb ≠ gb) :
    Calls Ybaf.prog 15 #[.func (.func g) #[] #[.pointer (some ⟨gb, 0, none⟩)], .pointer (some ⟨sb, 0, none⟩)] W0 fun e w' => e = .returned (.tuple #[]) ∧ Inv W0.heap.size gb W0 U w' := by
  have hsl : sb < W0.heap.size := World.block_lt_of_cell? (h := hsb)
  have h := all1_any g #[.pointer (some ⟨gb, 0, none⟩)] eg sb U hU h64 (fun j w => Inv W0.heap.size gb W0 (U.take j) w) (fun j w hI => (hI.cell hsl hne).trans hsb) (fun j w n hI => hI.drewN n) (fun _ => true)
    (fun j hj w hI => by
      have := hclos W0.heap.size W0 (U.take j) U[j] w hI (by rw [List.length_take]; omega)
      rw [take_snoc U j hj] at this
      exact this) W0 (inv_start gb W0 hgb)
  rw [stopAt_true, Nat.zero_add, List.take_length] at h
  exact h

set_option maxHeartbeats 2000000 in
set_option maxRecDepth 100000 in
theorem lawAll_any (a : Option Addr) (c : Nat) (zs : List Int) (w : World) (hin : IsIn w a zs) (hlen : zs.length ≤ 1024) (h64 : ∀ v ∈ zs, in64 v) :
    Calls Ybaf.prog 3 #[.slice a zs.length c] w fun e w' => e = .returned (.bool true) ∧ Below w.heap.size w w' := by
  have h2 : ¬ (1024 : Int) < (zs.length : Int) := by omega
  have HIN : Hid (IsIn w a zs) := hin
  have eg : ∀ args w, (callFunc 7 args).run Ybaf.prog w = .ok (.enter 7 args) w := enters_of Ybaf.func7 (by kernel_rfl) rfl
  have hul := uniq_len zs
  have HM : Hid (∀ x, x ∈ uniq zs ↔ x ∈ zs) := uniq_mem zs
  have HP : Hid ((uniq zs).Pairwise (· < ·)) := uniq_pair zs
  have H64 : Hid (∀ v ∈ uniq zs, in64 v) := fun v hv => h64 v ((uniq_mem zs v).1 hv)
  have HS : Hid (Calls Ybaf.prog 5 #[.slice a zs.length c] w fun e w' => e = .returned (.agg #[.string (strS (uniq zs))]) ∧ Below w.heap.size w w') := setOf_any a c zs w hin hlen
  clear hin h64
  generalize uniq zs = U at *
  go_enter Ybaf.func3, Ybaf.ntmps3
  go_wp2_with fail
  refine HS.out.mono ?_
  rintro e w1 ⟨rfl, hb1⟩
  have HB1 : Hid (Below w.heap.size w w1) := hb1
  have hz1 : w.heap.size ≤ w1.heap.size := hb1.size
  clear hb1 HS
  go_wp2_with fail
  refine (all_any (strS U) _).mono ?_
  rintro e w2 ⟨rfl, hw2⟩
  subst hw2
  go_wp2_with fail
  have hsz3 : (((w1.alloc (Obj.cells #[Value.string (strS U)] 25)).alloc (Obj.cells #[Value.slice none 0 0] 22)).alloc (Obj.cells #[Value.string (strS U)] 25)).heap.size = w1.heap.size + 3 := by simp
  have hB3 : Below w1.heap.size w1 (((w1.alloc (Obj.cells #[Value.string (strS U)] 25)).alloc (Obj.cells #[Value.slice none 0 0] 22)).alloc (Obj.cells #[Value.string (strS U)] 25)) := (((Below.refl _ w1).alloc (Nat.le_refl _) _).alloc (by simp) _).alloc (by simp; omega) _
  refine (list_all 7 (w1.heap.size + 1) (w1.heap.size + 1 + 1) eg (fun N w0 xs x w h hl => clos7 N _ w0 xs x w h hl) U (by omega) H64.out _ ?g1 ?g2 (by omega)).mono ?_
  case g1 => exact second_heap w1 _ _ _
  case g2 => exact third_cell w1 _ _ _ _
  rintro e w3 ⟨rfl, hI3⟩
  rw [hsz3] at hI3
  have hs3 := hI3.2.1
  have HB3 : Hid (Below w.heap.size w w3) := HB1.out.trans ((hB3.mono hz1).trans (hI3.below (by omega) (by rw [hsz3]; exact hs3)))
  obtain ⟨ga, gc, cg, hcase⟩ := hI3.slice
  have HCS : Hid (U = [] ∨ ∃ g, ga = some ⟨g, 0, none⟩ ∧ Cells w3 g 0 U ∧ w1.heap.size + 3 ≤ g ∧ g < w3.heap.size) := hcase
  clear hI3 hsz3 hB3 hcase
  go_wp2_with fail
  go_loopg [5] U.length (fun kx s wr => ∃ j : Nat, s = .int .i64 (j + 1 : Nat) ∧ (j = 0 ∨ j < U.length) ∧ U.length - j ≤ kx ∧ ∃ n, wr = w3.drewN n)
  case atStart => exact ⟨0, rfl, Or.inl rfl, by omega, 0, rfl⟩
  case round =>
    obtain ⟨j, rfl, hj, hg, n, hwr⟩ := hrel
    have cg' : wr.cell? ⟨w1.heap.size + 1, 0, none⟩ = some (.slice ga U.length gc) := by rw [hwr]; exact cg
    by_cases hlt : j + 1 < U.length
    · obtain ⟨g, hga, hcl, _⟩ : ∃ g, ga = some ⟨g, 0, none⟩ ∧ Cells w3 g 0 U ∧ w1.heap.size + 3 ≤ g ∧ g < w3.heap.size := by
        rcases HCS.out with h | h
        · rw [h] at hlt; simp at hlt
        · exact h
      rw [hga] at cg'
      have x1 : wr.cell? ⟨g, j, none⟩ = some (.int .i64 U[j]) := by
        have := hcl j (by omega); rw [Nat.zero_add] at this; rw [hwr]; exact this
      have x2 : wr.cell? ⟨g, j + 1, none⟩ = some (.int .i64 U[j + 1]) := by
        have := hcl (j + 1) hlt; rw [Nat.zero_add] at this; rw [hwr]; exact this
      have hord : U[j] < U[j + 1] := List.pairwise_iff_getElem.1 HP.out j (j + 1) (by omega) hlt (by omega)
      have hord' : ¬ U[j + 1] ≤ U[j] := by omega
      have l1 : (j : Int) < (U.length : Int) := by omega
      have l2 : (j : Int) + 1 < (U.length : Int) := by omega
      have HWR : Hid (wr = w3.drewN n) := hwr
      clear hwr hord hcl cg
      generalize U[j] = u1 at *
      generalize U[j + 1] = u2 at *
      go_wp2_with fail
      go_quiet (fail)
      go_wp2_with fail
      go_roundg (U.length - (j + 1))
      case measure => omega
      case rel => exact ⟨j + 1, by go_num, Or.inr hlt, Nat.le_refl _, n + nq, by rw [HWR.out, World.drewN_drewN]⟩
    · have hlt' : ¬ (j : Int) + 1 < (U.length : Int) := by omega
      have HB4 : Hid (Below w.heap.size w wr) := by show Below _ _ _; rw [hwr]; exact ⟨HB3.out.os, HB3.out.tape, HB3.out.output, HB3.out.size, HB3.out.block⟩
      have HCS4 : Hid (U = [] ∨ ∃ g, ga = some ⟨g, 0, none⟩ ∧ Cells wr g 0 U) := by
        rcases HCS.out with h | ⟨g, h1, h2, _⟩
        · exact Or.inl h
        · exact Or.inr ⟨g, h1, fun i hi => by rw [hwr]; exact h2 i hi⟩
      clear hwr HCS HB3 cg
      obtain ⟨w4, rfl⟩ : ∃ w4 : World, w4 = wr := ⟨_, rfl⟩
      go_wp2_with fail
      go_loopg [37] zs.length (fun kx s wr => ∃ i : Nat, s = .int .i64 i ∧ i ≤ zs.length ∧ zs.length - i ≤ kx ∧ w4 = wr)
      case atStart => exact ⟨0, rfl, Nat.zero_le _, by omega, rfl⟩
      case round =>
        obtain ⟨i, rfl, hi, hg2, rfl⟩ := hrel
        by_cases hlt2 : i < zs.length
        · have hm : zs[i] ∈ U := (HM.out _).2 (List.getElem_mem hlt2)
          obtain ⟨b, o, ha, hb, hcin⟩ : ∃ b o, a = some ⟨b, o, none⟩ ∧ b < w.heap.size ∧ Cells w b o zs := by
            rcases HIN.out with h | h
            · rw [h] at hlt2; simp at hlt2
            · exact h
          obtain ⟨g, hga, hcl⟩ : ∃ g, ga = some ⟨g, 0, none⟩ ∧ Cells w4 g 0 U := by
            rcases HCS4.out with h | h
            · rw [h] at hm; simp at hm
            · exact h
          subst ha
          subst hga
          have x1 : w4.cell? ⟨b, o + i, none⟩ = some (.int .i64 zs[i]) := (HB4.out.cell (p := ⟨b, o + i, none⟩) hb).trans (hcin i hlt2)
          have HH : Hid (Calls Ybaf.prog 8 #[.slice (some ⟨g, 0, none⟩) U.length gc, .int .i64 zs[i]] w4 fun e w' => e = .returned (.bool true) ∧ w' = w4) := has_true g 0 gc U zs[i] w4 hcl (by omega) hm
          clear hm hcin hcl
          generalize zs[i] = z at *
          go_wp2_with fail
          refine HH.out.mono ?_
          rintro e w6 ⟨rfl, hw6⟩
          subst hw6
          go_wp2_with fail
          go_roundg (zs.length - (i + 1))
          case measure => omega
          case rel => exact ⟨i + 1, by go_num, by omega, Nat.le_refl _, rfl⟩
        · obtain rfl : i = zs.length := by omega
          go_wp2_with fail
          go_loopg [48] U.length (fun kx s wr => ∃ i : Nat, s = .int .i64 i ∧ i ≤ U.length ∧ U.length - i ≤ kx ∧ w4 = wr)
          case atStart => exact ⟨0, rfl, Nat.zero_le _, by omega, rfl⟩
          case round =>
            obtain ⟨i, rfl, hi, hg3, rfl⟩ := hrel
            by_cases hlt3 : i < U.length
            · have hm : U[i] ∈ zs := (HM.out _).1 (List.getElem_mem hlt3)
              obtain ⟨b, o, ha, hb, hcin⟩ : ∃ b o, a = some ⟨b, o, none⟩ ∧ b < w.heap.size ∧ Cells w b o zs := by
                rcases HIN.out with h | h
                · rw [h] at hm; simp at hm
                · exact h
              obtain ⟨g, hga, hcl⟩ : ∃ g, ga = some ⟨g, 0, none⟩ ∧ Cells w4 g 0 U := by
                rcases HCS4.out with h | h
                · rw [h] at hlt3; simp at hlt3
                · exact h
              subst ha
              subst hga
              have x1 : w4.cell? ⟨g, i, none⟩ = some (.int .i64 U[i]) := by have := hcl i hlt3; rwa [Nat.zero_add] at this
              have HH : Hid (Calls Ybaf.prog 8 #[.slice (some ⟨b, o, none⟩) zs.length c, .int .i64 U[i]] w4 fun e w' => e = .returned (.bool true) ∧ w' = w4) := has_true b o c zs U[i] w4 (fun j hj => (HB4.out.cell (p := ⟨b, o + j, none⟩) hb).trans (hcin j hj)) (by omega) hm
              clear hm hcin hcl
              generalize U[i] = z at *
              go_wp2_with fail
              refine HH.out.mono ?_
              rintro e w6 ⟨rfl, hw6⟩
              subst hw6
              go_wp2_with fail
              go_roundg (U.length - (i + 1))
              case measure => omega
              case rel => exact ⟨i + 1, by go_num, by omega, Nat.le_refl _, rfl⟩
            · obtain rfl : i = U.length := by omega
              go_wp2_with fail
              go_ret
              exact ⟨rfl, HB4.out⟩

end Go.Proofs.YbulkdczcFmt
