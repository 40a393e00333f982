/-
  THE WALK of SetOf (5): slices.Clone, slices.Sort, slices.Compact by their contracts; encode by ours.
-/
import Derived.Test.YbulkdczcFmtEncode
import Derived.Test.YbulkdczcFmtUniq
import Derived.OwnWalk
namespace Go.Proofs.YbulkdczcFmt
open Go.RowKit Go.Sort

theorem Ybaf.info2 : (Ybaf.prog.info? 2).map (fun i => (i.zero, i.size, i.bytes)) = some (some (.int .i64 0), 1, 8) := by kernel_rfl
theorem info2_ex : ∃ i, Ybaf.prog.info? 2 = some i ∧ i.zero = some (.int .i64 0) ∧ i.size = 1 ∧ i.bytes = 8 := by
  have h := Ybaf.info2
  cases hi : Ybaf.prog.info? 2 with
  | none => rw [hi] at h; cases h
  | some i => rw [hi] at h; simp at h; exact ⟨i, rfl, h.1, h.2.1, h.2.2⟩

def ints (zs : List Int) : List Value := zs.map (Value.int .i64)

theorem holds_of_owns {w : World} {base g n cap : Nat} {zs : List Int} (h : w.ownsRow base 2 1 (.slice (some ⟨g, 0, none⟩) n cap) n (ints zs)) : Holds (Value.int .i64) w g 0 zs.toArray := by
  intro t ht
  have ht' : t < zs.length := by simpa using ht
  have hc := h.cells (g := g) rfl t (.int .i64 zs[t]) (by unfold ints; rw [List.getElem?_map, List.getElem?_eq_getElem ht']; rfl)
  refine ⟨?_, by rw [Nat.zero_add]; exact h.frozenAt t⟩
  rw [Addr.add_lit] at hc
  rw [hc, getElem!_pos _ t ht]; simp

theorem cells_of_holds {w : World} {g : Nat} {l r : List Int} (h : Holds (Value.int .i64) w g 0 (l ++ r).toArray) : Cells w g 0 l := by
  intro i hi
  have := (h i (by simp; omega)).1
  rw [this, getElem!_pos _ i (by simp; omega)]
  simp [List.getElem_append_left hi]

/-- An empty slice that is not nil, cloned. -/
theorem clone_empty (ad : Addr) (c : Nat) (w : World) : Calls Ybaf.prog 11 #[.slice (some ad) 0 c] w fun e w' => ∃ a' c', e = .returned (.slice a' 0 c') ∧ Below w.heap.size w w' := by
  obtain ⟨i0, hi, hz0, hz1, hz2⟩ := info2_ex
  have q22 : ∀ (w : World) (a : Option Addr) (n c n' c' : Nat), (binOp .eql 22 (.slice a n c) (.slice none n' c')).run Ybaf.prog w = .ok (.bool a.isNone) w := fun w a n c n' c' => Lib.run_eql_slice_nil w _ _ a n c n' c' Ybaf.underlying22
  go_enter Ybaf.func11, Ybaf.ntmps11
  go_wp2_with (at_builtin; refine wpList_append_own _ rfl _ _ 22 rfl w.heap.size 2 i0 (.int .i64 0) 1 8 Ybaf.underlying22 hi hz0 hz1 hz2 rfl (by decide) _ _ _ rfl (World.ownsRow_made w #[] 0 (Nat.le_refl _) (Nat.zero_le _) (by simp)) ad 0 c [] rfl ?q1 ?q2 ?q3 ?q4 ?q5 ?q6 ?_)
  case q1 => rfl
  case q2 => intro j u hj; simp at hj
  case q3 => intro u hu; simp at hu
  case q4 => unfold maxLen; omega
  case q5 => omega
  case q6 => simp
  intro v' w1 hown hgrow _
  have hB : Below w.heap.size w w1 := ((Below.refl _ w).alloc (Nat.le_refl _) _).grown hgrow (by simp) (fun k hk => by simp [Value.ownBlock] at hk; omega)
  have hv : ∃ a' c', v' = .slice a' 0 c' := by
    rcases hown.2 with ⟨h, _⟩ | ⟨g, cap, cur, h, _⟩
    · exact ⟨none, 0, h⟩
    · exact ⟨some ⟨g, 0, none⟩, cap, h⟩
  obtain ⟨a', c', rfl⟩ := hv
  have HB : Hid (Below w.heap.size w w1) := hB
  clear hB hown hgrow
  go_wp2_with fail
  go_ret
  exact ⟨a', c', rfl, HB.out⟩

set_option maxHeartbeats 400000 in
theorem compact_short (a : Option Addr) (c : Nat) (w : World) : Calls Ybaf.prog 14 #[.slice a 0 c] w fun e w' => e = .returned (.slice a 0 c) ∧ w' = w := by
  go_enter Ybaf.func14, Ybaf.ntmps14
  go_wp2
  go_ret
  exact ⟨rfl, rfl⟩

theorem below_putRow (w : World) (n g : Nat) (d : Array Int) : Below g w (putRow (Value.int .i64) (Sort.ahead w n) g 0 d) := by
  refine ⟨rfl, rfl, rfl, by rw [size_putRow]; exact Nat.le_refl _, fun k hk => ?_⟩
  show (w.heap.modify g _)[k]? = _
  rw [Array.getElem?_modify, if_neg (by omega)]

theorem below_grow (w : World) (os : Array Obj) : Below w.heap.size w (grow w os) := by
  refine ⟨rfl, rfl, rfl, by rw [size_grow]; exact Nat.le_add_right _ _, fun k hk => ?_⟩
  show (w.heap ++ os)[k]? = _
  rw [Array.getElem?_append_left hk]

theorem sort_any (g cap : Nat) (zs : List Int) (w : World) (hH : Holds (Value.int .i64) w g 0 zs.toArray) (hg : g < w.heap.size) (hlen : zs.length ≤ 1024) :
    Calls Ybaf.prog 12 #[.slice (some ⟨g, 0, none⟩) zs.length cap] w fun e w' => e = .returned (.tuple #[]) ∧ Holds (Value.int .i64) w' g 0 (sortL zs).toArray ∧ Below g w w' ∧ g < w'.heap.size := by
  refine (Ybaf.slices_Sort_int g 0 cap zs w hH hg (by omega)).mono ?_
  rintro e w' ⟨rfl, n, os, rfl⟩
  refine ⟨rfl, ?_, ?_, ?_⟩
  · refine holds_grow (Value.int .i64) _ os g 0 _ (by rw [size_putRow]; exact hg) ?_
    exact holds_putRow (Value.int .i64) _ g 0 zs.toArray _ (fun i hi => hH i hi) (by simp)
  · exact (below_putRow w n g _).trans ((below_grow _ os).mono (by rw [size_putRow]; exact Nat.le_of_lt hg))
  · rw [size_grow, size_putRow]; exact Nat.lt_of_lt_of_le hg (Nat.le_add_right _ _)

theorem compact_any (g cap : Nat) (zs : List Int) (w : World) (hH : Holds (Value.int .i64) w g 0 zs.toArray) (hg : g < w.heap.size) (hlen : zs.length ≤ 1024) (hcap : zs.length ≤ cap) :
    Calls Ybaf.prog 14 #[.slice (some ⟨g, 0, none⟩) zs.length cap] w fun e w' => e = .returned (.slice (some ⟨g, 0, none⟩) (Lib.compactUpTo zs.toArray zs.toArray.size).length cap) ∧ Cells w' g 0 (Lib.compactUpTo zs.toArray zs.toArray.size) ∧ Below g w w' ∧ g < w'.heap.size := by
  refine (Ybaf.slices_Compact (Value.int .i64) (fun _ => rfl) (EqlAt.intD _ _ _) (NeqAt.intD _ _ _) 0 Ybaf.zeroValue2 g 0 cap zs.toArray w hH (by simp; omega) (by simpa using hcap)).mono ?_
  rintro e w' ⟨rfl, q, rfl⟩
  refine ⟨rfl, ?_, below_putRow w q g _, by rw [size_putRow]; exact hg⟩
  refine cells_of_holds (r := List.replicate (zs.toArray.size - (Lib.compactUpTo zs.toArray zs.toArray.size).length) 0) ?_
  refine holds_putRow (Value.int .i64) _ g 0 zs.toArray _ (fun i hi => hH i hi) ?_
  have := comp_len zs.toArray zs.toArray.size
  simp at this ⊢
  omega

/-- What the walk is told of the slice that came in. -/
def IsIn (w : World) (a : Option Addr) (zs : List Int) : Prop := zs = [] ∨ ∃ b o, a = some ⟨b, o, none⟩ ∧ b < w.heap.size ∧ Cells w b o zs

theorem clone_any (b o c : Nat) (zs : List Int) (w : World) (hc : Cells w b o zs) (hlen : zs.length ≤ 1024) :
    Calls Ybaf.prog 11 #[.slice (some ⟨b, o, none⟩) zs.length c] w fun e w' => ∃ g cap, e = .returned (.slice (some ⟨g, 0, none⟩) zs.length cap) ∧ w.heap.size ≤ g ∧ g < w'.heap.size ∧ zs.length ≤ cap ∧ Holds (Value.int .i64) w' g 0 zs.toArray ∧ Below w.heap.size w w' := by
  obtain ⟨i0, hi, hz0, hz1, hz2⟩ := info2_ex
  refine (Ybaf.slices_Clone i0 (.int .i64 0) 1 8 hi hz0 hz1 hz2 rfl (by decide) Ybaf.sizeOf2 b o zs.length c (ints zs) w (by simp [ints]) (by unfold maxLen; omega) (by omega) (fun j u hj => ?_) (fun u hu => ?_)).mono ?_
  · unfold ints at hj
    rw [List.getElem?_map] at hj
    obtain ⟨x, hx, rfl⟩ := Option.map_eq_some_iff.1 hj
    obtain ⟨hj', e⟩ := List.getElem?_eq_some_iff.1 hx
    rw [hc j hj', e]
  · unfold ints at hu
    obtain ⟨x, _, rfl⟩ := List.mem_map.1 hu; rfl
  · rintro e w' ⟨v', rfl, hown, hnn, hbel⟩
    rcases hown.2 with ⟨h0, _⟩ | ⟨g, cap, cur, rfl, hb, _, hcap, _⟩
    · exact absurd h0 hnn
    · exact ⟨g, cap, rfl, hb, (hown.lt g rfl).2, hcap, holds_of_owns hown, hbel⟩

set_option maxHeartbeats 1000000 in
set_option maxRecDepth 100000 in
theorem setOf_any (a : Option Addr) (c : Nat) (zs : List Int) (w : World) (hin : IsIn w a zs) (hlen : zs.length ≤ 1024) :
    Calls Ybaf.prog 5 #[.slice a zs.length c] w fun e w' => e = .returned (.agg #[.string (strS (uniq zs))]) ∧ Below w.heap.size w w' := by
  by_cases hz : zs = []
  · subst hz
    have hu : uniq [] = [] := List.eq_nil_of_length_eq_zero (Nat.le_zero.1 (uniq_len []))
    rw [hu]
    have hcl : ∀ W, Calls Ybaf.prog 11 #[.slice a 0 c] W fun e w' => ∃ a' c', e = .returned (.slice a' 0 c') ∧ Below W.heap.size W w' := fun W => by
      cases a with
      | none => exact (Ybaf.slices_Clone_nil 0 c W).mono fun _ _ ⟨h, h'⟩ => ⟨none, 0, h, by rw [h']; exact Below.refl _ _⟩
      | some ad => exact clone_empty ad c W
    have HCL : Hid (∀ W, Calls Ybaf.prog 11 #[.slice a 0 c] W fun e w' => ∃ a' c', e = .returned (.slice a' 0 c') ∧ Below W.heap.size W w') := hcl
    clear hcl hin
    simp only [List.length_nil]
    go_enter Ybaf.func5, Ybaf.ntmps5
    go_wp2_with fail
    refine (HCL.out _).mono ?_
    rintro e w1 ⟨a', c', rfl, hb1⟩
    have HB1 : Hid (Below w.heap.size w w1) := ((Below.refl _ w).alloc (Nat.le_refl _) _).trans (hb1.mono (by simp))
    have q0 : w1.cell? ⟨w.heap.size, 0, none⟩ = some (.string ⟨#[]⟩) := (hb1.cell (p := ⟨w.heap.size, 0, none⟩) (by simp)).trans (by simp)
    have f0 : w1.frozen? ⟨w.heap.size, 0, none⟩ = false := (hb1.frozen (p := ⟨w.heap.size, 0, none⟩) (by simp)).trans (by simp)
    clear hb1
    go_wp2_with fail
    refine (Ybaf.slices_Sort_int_none a' c' w1).mono ?_
    rintro e w2 ⟨rfl, hw2⟩
    subst hw2
    go_wp2_with fail
    refine (compact_short a' c' _).mono ?_
    rintro e w3 ⟨rfl, hw3⟩
    subst hw3
    go_wp2_with fail
    refine (encode_empty a' c' _).mono ?_
    rintro e w4 ⟨rfl, hw4⟩
    subst hw4
    go_wp2_with fail
    exact bodyPost_ret (v := .agg #[.string (strS [])]) (by simp [results, Ybaf.results5, go_sem, q0]) rfl ⟨rfl, HB1.out.setCell (p := ⟨w.heap.size, 0, none⟩) (Nat.le_refl _) _⟩
  · rcases hin with h | ⟨b, o, rfl, hb, hc⟩
    · exact absurd h hz
    have HZ : Hid (zs ≠ []) := hz
    have HCL : Hid (∀ W, Below w.heap.size w W → Calls Ybaf.prog 11 #[.slice (some ⟨b, o, none⟩) zs.length c] W fun e w' => ∃ g cap, e = .returned (.slice (some ⟨g, 0, none⟩) zs.length cap) ∧ W.heap.size ≤ g ∧ g < w'.heap.size ∧ zs.length ≤ cap ∧ Holds (Value.int .i64) w' g 0 zs.toArray ∧ Below W.heap.size W w') := fun W hW => clone_any b o c zs W (fun i hi => (hW.cell (p := ⟨b, o + i, none⟩) hb).trans (hc i hi)) hlen
    clear hc hz
    go_enter Ybaf.func5, Ybaf.ntmps5
    go_wp2_with fail
    refine (HCL.out _ ((Below.refl _ w).alloc (Nat.le_refl _) _)).mono ?_
    rintro e w1 ⟨g, cap, rfl, hg, hg1, hcap, hH1, hb1⟩
    have hgw : w.heap.size < g := by simp at hg; omega
    have HB1 : Hid (Below w.heap.size w w1) := ((Below.refl _ w).alloc (Nat.le_refl _) _).trans (hb1.mono (by simp))
    have q1 : w1.cell? ⟨w.heap.size, 0, none⟩ = some (.string ⟨#[]⟩) := (hb1.cell (p := ⟨w.heap.size, 0, none⟩) (by simp)).trans (by simp)
    have f1 : w1.frozen? ⟨w.heap.size, 0, none⟩ = false := (hb1.frozen (p := ⟨w.heap.size, 0, none⟩) (by simp)).trans (by simp)
    have HH1 : Hid (Holds (Value.int .i64) w1 g 0 zs.toArray) := hH1
    clear hb1 hH1 hg
    go_wp2_with fail
    refine (sort_any g cap zs w1 HH1.out hg1 hlen).mono ?_
    rintro e w2 ⟨rfl, hH2, hb2, hg2⟩
    have HB2 : Hid (Below w.heap.size w w2) := HB1.out.trans (hb2.mono (by omega))
    have q2 : w2.cell? ⟨w.heap.size, 0, none⟩ = some (.string ⟨#[]⟩) := (hb2.cell (p := ⟨w.heap.size, 0, none⟩) hgw).trans q1
    have f2 : w2.frozen? ⟨w.heap.size, 0, none⟩ = false := (hb2.frozen (p := ⟨w.heap.size, 0, none⟩) hgw).trans f1
    have HH2 : Hid (Holds (Value.int .i64) w2 g 0 (sortL zs).toArray) := hH2
    clear hb2 hH2 q1 f1 HB1 HH1
    have hsl := sortL_len zs
    have hcm := compact_any g cap (sortL zs) w2 HH2.out hg2 (by omega) (by omega)
    rw [hsl] at hcm
    have HCM : Hid (Calls Ybaf.prog 14 #[.slice (some ⟨g, 0, none⟩) zs.length cap] w2 fun e w' => e = .returned (.slice (some ⟨g, 0, none⟩) (uniq zs).length cap) ∧ Cells w' g 0 (uniq zs) ∧ Below g w2 w' ∧ g < w'.heap.size) := hcm
    clear hcm hsl HH2
    go_wp2_with fail
    refine HCM.out.mono ?_
    rintro e w3 ⟨rfl, hc3, hb3, hg3⟩
    have HB3 : Hid (Below w.heap.size w w3) := HB2.out.trans (hb3.mono (by omega))
    have q3 : w3.cell? ⟨w.heap.size, 0, none⟩ = some (.string ⟨#[]⟩) := (hb3.cell (p := ⟨w.heap.size, 0, none⟩) hgw).trans q2
    have f3 : w3.frozen? ⟨w.heap.size, 0, none⟩ = false := (hb3.frozen (p := ⟨w.heap.size, 0, none⟩) hgw).trans f2
    have HC3 : Hid (Cells w3 g 0 (uniq zs)) := hc3
    clear hc3 hb3 HB2 q2 f2 HCM
    have hul := uniq_len zs
    have hen := encode_any g 0 cap (uniq zs) (uniq_ne zs HZ.out) (by omega) w3 hg3 HC3.out
    have HEN : Hid (Calls Ybaf.prog 13 #[.slice (some ⟨g, 0, none⟩) (uniq zs).length cap] w3 fun e w' => e = .returned (.string (strS (uniq zs))) ∧ Below w3.heap.size w3 w') := hen
    clear hen
    generalize hst : strS (uniq zs) = st at *
    have HST : Hid (strS (uniq zs) = st) := hst
    clear hst
    go_wp2_with fail
    refine HEN.out.mono ?_
    rintro e w4 ⟨rfl, hb4⟩
    have hlt3 : w.heap.size < w3.heap.size := by omega
    have HB4 : Hid (Below w.heap.size w w4) := HB3.out.trans (hb4.mono (by omega))
    have q4 : w4.cell? ⟨w.heap.size, 0, none⟩ = some (.string ⟨#[]⟩) := (hb4.cell (p := ⟨w.heap.size, 0, none⟩) hlt3).trans q3
    have f4 : w4.frozen? ⟨w.heap.size, 0, none⟩ = false := (hb4.frozen (p := ⟨w.heap.size, 0, none⟩) hlt3).trans f3
    clear hb4 q3 f3
    go_wp2_with fail
    exact bodyPost_ret (v := .agg #[.string st]) (by simp [results, Ybaf.results5, go_sem, q4]) rfl ⟨by rw [HST.out], HB4.out.setCell (p := ⟨w.heap.size, 0, none⟩) (Nat.le_refl _) _⟩

end Go.Proofs.YbulkdczcFmt
