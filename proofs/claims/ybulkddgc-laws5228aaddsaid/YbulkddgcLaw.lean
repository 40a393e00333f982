/-
  THE WALK of LawS5228AAdd (3).
-/
import Derived.Test.YbulkddgcState
import Derived.Test.YbulkddgcEqual
import Derived.Deep.OwnRows
import Derived.Laws.CopyOwn
import Derived.Deep.LoopGhost
import Derived.Deep.QuietTactic
import Derived.BigQuiet
namespace Go.Proofs.Ybulkddgc
open Go.RowKit

theorem Yba.info5 : (Yba.prog.info? 5).map (fun i => (i.zero, i.size, i.bytes)) = some (some (.int .u8 0), 1, 1) := by kernel_rfl
theorem Yba.info5s : (Yba.prog.info? 5).map (·.size) = some 1 := by kernel_rfl
theorem Yba.info32 : (Yba.prog.info? 32).map (fun i => (i.zero, i.size, i.bytes)) = some (some (.agg #[.bool false, .int .i64 0, .int .i64 0, .int .i64 0]), 4, 32) := by kernel_rfl

/-- The steps as they came in. -/
def Steps (w : World) (q : Option Addr) (ss : List (Int × Int)) : Prop := ss = [] ∨ ∃ b o, q = some ⟨b, o, none⟩ ∧ b < w.heap.size ∧ ∀ j, j < ss.length → w.cell? ⟨b, o + j * 2, none⟩ = some (.int .u8 (ss.getD j (0, 0)).1) ∧ w.cell? ⟨b, o + j * 2 + 1, none⟩ = some (.int .u8 (ss.getD j (0, 0)).2)

set_option maxRecDepth 100000 in
set_option maxHeartbeats 3200000 in
theorem law_long (p q : Option Addr) (n c m d : Nat) (at' : Int) (w : World) (h : 4096 < n ∨ 1024 < m) :
    Calls Yba.prog 3 #[.slice p n c, .int .u8 at', .slice q m d] w fun e w' => e = .returned (.bool true) ∧ Below w.heap.size w w' := by
  by_cases h1 : 4096 < n
  · have h1' : (4096 : Int) < n := by omega
    clear h
    go_enter Yba.func3, Yba.ntmps3
    go_wp2
    go_ret
    exact ⟨rfl, Below.refl _ _⟩
  · have h1' : ¬ (4096 : Int) < n := by omega
    have h2' : (1024 : Int) < m := by omega
    clear h
    go_enter Yba.func3, Yba.ntmps3
    go_wp2
    go_ret
    exact ⟨rfl, Below.refl _ _⟩

theorem copy_src {w : World} {p : Option Addr} {xs : List Int} {n : Nat} (h : Bytes w p xs) : 0 < (xs.map (Value.int .u8)).length → some (⟨w.heap.size, 0, none⟩ : Addr) = some ⟨w.heap.size, 0, none⟩ ∧ ∃ ad, p = some ad ∧ ∀ j v, (xs.map (Value.int .u8))[j]? = some v → (w.alloc (.cells (madeCells #[.int .u8 0] n) 5)).cell? (ad.add j) = some v := by
  intro hpos
  refine ⟨rfl, ?_⟩
  rcases h with h0 | ⟨b, o, rfl, hc⟩
  · rw [h0] at hpos; simp at hpos
  · refine ⟨_, rfl, fun j v hj => ?_⟩
    rw [List.getElem?_map] at hj
    obtain ⟨x, hxj, rfl⟩ := Option.map_eq_some_iff.1 hj
    obtain ⟨hj', e⟩ := List.getElem?_eq_some_iff.1 hxj
    have h2 := hc j hj'
    rw [Addr.add_lit, Below.cell (p := ⟨b, o + j, none⟩) ((Below.refl _ w).alloc (Nat.le_refl _) _) (World.block_lt_of_cell? w _ h2), h2]
    simp [hxj]
theorem steps_below {w w1 : World} {q : Option Addr} {ss : List (Int × Int)} {B : Nat} (h : Steps w q ss) (hb : Below B w w1) (hB : w.heap.size ≤ B) : Steps w1 q ss := by
  rcases h with h | ⟨b, o, rfl, hb1, hc⟩
  · exact Or.inl h
  · refine Or.inr ⟨b, o, rfl, Nat.lt_of_lt_of_le hb1 hb.size, fun j hj => ?_⟩
    rw [hb.cell (p := ⟨b, o + j * 2, none⟩) (Nat.lt_of_lt_of_le hb1 hB), hb.cell (p := ⟨b, o + j * 2 + 1, none⟩) (Nat.lt_of_lt_of_le hb1 hB)]
    exact hc j hj
theorem bytes_below {w w1 : World} {p : Option Addr} {xs : List Int} {B : Nat} (h : Bytes w p xs) (hb : Below B w w1) (hB : w.heap.size ≤ B) : Bytes w1 p xs := by
  rcases h with h | ⟨b, o, rfl, hc⟩
  · exact Or.inl h
  · refine Or.inr ⟨b, o, rfl, fun j hj => ?_⟩
    have h2 := hc j hj
    rw [hb.cell (p := ⟨b, o + j, none⟩) (Nat.lt_of_lt_of_le (World.block_lt_of_cell? w _ h2) hB)]
    exact h2
theorem copy_one (xs : List Int) : ∀ v ∈ xs.map (Value.int .u8), v.oneCell' = true := by
  intro v hv
  obtain ⟨x, _, rfl⟩ := List.mem_map.1 hv
  rfl

theorem ta34 (v : Value) (w : World) : (Instr.typeAssert (.iface 34 v) 40 34 true).run Yba.prog w = .ok (.tuple #[v, .bool true]) w := by kernel_rfl
theorem ta37 (v : Value) (w : World) : (Instr.typeAssert (.iface 37 v) 40 37 true).run Yba.prog w = .ok (.tuple #[v, .bool true]) w := by kernel_rfl
theorem part_bytes {w : World} {nb : Nat} {xs : List Int} (h : w.heap[nb]? = some (.cells (xs.map (Value.int .u8)).toArray 5 (0, 0))) (lo hi : Nat) (hh : hi ≤ xs.length) : Bytes w (some ⟨nb, lo, none⟩) ((xs.drop lo).take (hi - lo)) := by
  refine Or.inr ⟨nb, lo, rfl, fun j hj => ?_⟩
  have hj' : j < hi - lo ∧ lo + j < xs.length := by simp [List.length_take, List.length_drop] at hj; omega
  rw [Lib.cell_of_heap h]
  simp [List.getD_eq_getElem?_getD, List.getElem?_drop, hj'.1, List.getElem?_eq_getElem hj'.2]

theorem part_whole {w : World} {nb : Nat} {xs : List Int} (h : w.heap[nb]? = some (.cells (xs.map (Value.int .u8)).toArray 5 (0, 0))) : Bytes w (some ⟨nb, 0, none⟩) xs := by
  have := part_bytes h 0 xs.length (Nat.le_refl _)
  rwa [List.drop_zero, Nat.sub_zero, List.take_length] at this
theorem S2.drewN {nb bb n : Nat} {xs : List Int} {w wr : World} {P W : List Ev} {cur : Nat} {pv wv : Value} (h : S2 nb bb n xs w P W cur pv wv wr) (k : Nat) : S2 nb bb n xs w P W cur pv wv (wr.drewN k) :=
  ⟨h.hnb, h.hcur, h.body, h.bld, h.rowP, h.rowW, h.inside, h.marks, h.old.os, h.old.tape, h.old.output, h.old.size, h.old.block⟩

set_option maxRecDepth 100000 in
set_option maxHeartbeats 3200000 in
theorem law_any (p q : Option Addr) (c d : Nat) (at' : Int) (xs : List Int) (ss : List (Int × Int)) (w : World) (hx : xs.length ≤ 4096) (hs : ss.length ≤ 1024) (ha : 0 ≤ at' ∧ at' ≤ 255)
    (hB : Bytes w p xs) (hS : Steps w q ss) (hu : ∀ s ∈ ss, (0 ≤ s.1 ∧ s.1 ≤ 255) ∧ (0 ≤ s.2 ∧ s.2 ≤ 255)) :
    Calls Yba.prog 3 #[.slice p xs.length c, .int .u8 at', .slice q ss.length d] w fun e w' => e = .returned (.bool true) ∧ Below w.heap.size w w' := by
  obtain ⟨ha1, ha2⟩ := ha
  obtain ⟨i5, hi5, hz5, hy5, hb5⟩ := info_parts Yba.info5
  have HB : Hid (Bytes w p xs) := hB
  have HS : Hid (Steps w q ss) := hS
  have HU : Hid (∀ s ∈ ss, (0 ≤ s.1 ∧ s.1 ≤ 255) ∧ (0 ≤ s.2 ∧ s.2 ≤ 255)) := hu
  clear hB hS hu
  have k1 : ¬ (4096 : Int) < (xs.length : Nat) := by omega
  have k2 : ¬ (1024 : Int) < (ss.length : Nat) := by omega
  generalize hn : xs.length = n at *
  generalize hm : ss.length = m at *
  have F1 : Hid ((w.alloc (.cells (madeCells #[.int .u8 0] n) 5)).heap[w.heap.size]? = some (.cells ((madeCells #[.int .u8 0] n).toList).toArray 5 (0, 0))) := (by simpa using heap_alloc_new w _ : _ = _)
  have F2 : Hid ((xs.map (Value.int .u8)).length = Nat.min n n) := (by simp [hn] : _ = _)
  have F3 : Hid (0 < (xs.map (Value.int .u8)).length → some (⟨w.heap.size, 0, none⟩ : Addr) = some ⟨w.heap.size, 0, none⟩ ∧ ∃ ad, p = some ad ∧ ∀ j v, (xs.map (Value.int .u8))[j]? = some v → (w.alloc (.cells (madeCells #[.int .u8 0] n) 5)).cell? (ad.add j) = some v) := copy_src HB.out
  have F4 : Hid (0 + (xs.map (Value.int .u8)).length ≤ ((madeCells #[.int .u8 0] n).toList).length) := (by simp [hn, size_madeCells] : _ ≤ _)
  have F5 : Hid (∀ v ∈ xs.map (Value.int .u8), v.oneCell' = true) := copy_one xs
  have F6 : Hid (Below w.heap.size w (w.alloc (.cells (madeCells #[.int .u8 0] n) 5))) := (Below.refl _ w).alloc (Nat.le_refl _) _
  go_enter Yba.func3, Yba.ntmps3
  go_wp2_with (first | (refine wpList_make_row _ rfl _ _ 22 rfl 5 i5 (.int .u8 0) Yba.underlying22 hi5 hz5 hy5 rfl .i64 .i64 n rfl rfl (by rw [hb5]; omega) (by omega) ?_) | (refine wpList_copy_splice rfl _ _ 22 22 rfl 5 Yba.underlying22 Yba.info5s _ _ n n n c rfl rfl w.heap.size 0 (madeCells #[.int .u8 0] n).toList 5 F1.out (xs.map (Value.int .u8)) F2.out F3.out F4.out F5.out w.heap.size w F6.out (Nat.le_refl _) ?_))
  intro w1 HB1 hBel
  have hsp : splice (madeCells #[Value.int .u8 0] n).toList 0 (xs.map (Value.int .u8)) = xs.map (Value.int .u8) := by
    simp [splice, hn, size_madeCells]
  rw [hsp] at HB1
  have HBel : Hid (Below w.heap.size w w1) := hBel
  have hl1 : w.heap.size < w1.heap.size := lt_of_heap HB1.out
  clear hBel hsp
  go_wp2_with fail
  have ea1 : 0 ≤ at' % ((n : Int) + 1) := Int.emod_nonneg _ (by omega)
  have ea2 : at' % ((n : Int) + 1) < (n : Int) + 1 := Int.emod_lt_of_pos _ (by omega)
  obtain ⟨a0, ha0⟩ := Int.eq_ofNat_of_zero_le ea1
  rw [ha0]
  have HS2 : Hid (S2 w.heap.size w1.heap.size n xs w [] [] a0 (.slice none 0 0) (.slice none 0 0) (w1.alloc (.cells #[.slice (some ⟨w.heap.size, 0, none⟩) n n, .slice none 0 0, .int .i64 a0, .int .i64 0] 27))) :=
    ⟨hl1, by omega, (heap_alloc_old w1 _ hl1).trans HB1.out, heap_alloc_new w1 _, World.ownsRow_nil _ _ _ _, World.ownsRow_nil _ _ _ _, (fun e he => by cases he), (fun e he => by cases he), HBel.out.alloc (by omega) _⟩
  have HST : Hid (Steps w1 q ss ∧ Bytes w1 p xs) := ⟨steps_below HS.out HBel.out (Nat.le_refl _), bytes_below HB.out HBel.out (Nat.le_refl _)⟩
  generalize (w1.alloc (.cells #[.slice (some ⟨w.heap.size, 0, none⟩) n n, .slice none 0 0, .int .i64 a0, .int .i64 0] 27)) = W2 at *
  clear F1 F2 F3 F4 F5 F6 HB1 ea1 ea2 ha0 hi5 hz5 hy5 hb5
  go_loopg [11, 12, 51] m (fun kx s11 s12 s51 wr => ∃ (i cur : Nat) (pv : Value) (evs : List Ev), s51 = .int .i64 i ∧ i ≤ m ∧ m - i ≤ kx ∧ s12 = .int .i64 cur ∧ evs.length ≤ 2 * i ∧ Hid (S2 w.heap.size w1.heap.size n xs w evs evs cur pv s11 wr))
  case atStart => exact ⟨0, a0, _, [], rfl, by omega, by omega, rfl, by simp, HS2⟩
  case round =>
    obtain ⟨i, cur, pv, evs, rfl, hi, hg2, rfl, hev, HI⟩ := hrel
    by_cases him : i < m
    · have hss : ss ≠ [] := by intro h; rw [h] at hm; simp at hm; omega
      obtain ⟨sb, so, rfl, hsb, hsc⟩ := HS.out.resolve_left hss
      obtain ⟨c1, c2⟩ := hsc i (by omega)
      have hmem : ss.getD i (0, 0) ∈ ss := by
        rw [List.getD_eq_getElem?_getD, List.getElem?_eq_getElem (by omega : i < ss.length)]
        exact List.getElem_mem _
      obtain ⟨⟨x1a, x1b⟩, ⟨x2a, x2b⟩⟩ := HU.out _ hmem
      have d1 : wr.cell? ⟨sb, so + i * 2, none⟩ = some (.int .u8 (ss.getD i (0, 0)).1) := (HI.out.old.cell (p := ⟨sb, so + i * 2, none⟩) (by omega)).trans c1
      have d2 : wr.cell? ⟨sb, so + i * 2 + 1, none⟩ = some (.int .u8 (ss.getD i (0, 0)).2) := (HI.out.old.cell (p := ⟨sb, so + i * 2 + 1, none⟩) (by omega)).trans c2
      clear hss hsc c1 c2 hmem
      generalize (ss.getD i (0, 0)).1 = x1 at *
      generalize (ss.getD i (0, 0)).2 = x2 at *
      have e1 : 0 ≤ x1 % ((n : Int) + 1) := Int.emod_nonneg _ (by omega)
      have e2 : x1 % ((n : Int) + 1) < (n : Int) + 1 := Int.emod_lt_of_pos _ (by omega)
      have e3 : 0 ≤ x2 % ((n : Int) + 1) := Int.emod_nonneg _ (by omega)
      have e4 : x2 % ((n : Int) + 1) < (n : Int) + 1 := Int.emod_lt_of_pos _ (by omega)
      obtain ⟨st, hst⟩ := Int.eq_ofNat_of_zero_le e1
      obtain ⟨en, hen⟩ := Int.eq_ofNat_of_zero_le e3
      have hst' : st ≤ n := by omega
      have hen' : en ≤ n := by omega
      have hcur : cur ≤ n := HI.out.hcur
      have him' : (i : Int) < m := by omega
      have hi0 : (0 : Int) ≤ i := by omega
      clear e1 e2 e3 e4
      obtain ⟨i32, hi32, hz32, hy32, hb32⟩ := info_parts Yba.info32
      have hbl : w1.heap.size < wr.heap.size := lt_of_heap HI.out.bld
      by_cases hlt : cur < st
      · have hlt' : (cur : Int) < st := by omega
        have O1 : Hid (((wr.alloc (.cells #[.int .u8 x1, .int .u8 x2] 30)).alloc (.cells #[.bool true, .int .i64 cur, .int .i64 st, .int .i64 0] 32)).ownsRow (w1.heap.size + 1) 32 4 u11 evs.length (evs.flatMap encW)) := ((HI.out.alloc _).alloc _).rowW
        go_wp2_with (at_builtin; refine wpList_append_lies _ rfl _ _ 28 rfl (w1.heap.size + 1) 32 i32 (.agg #[.bool false, .int .i64 0, .int .i64 0, .int .i64 0]) 4 32 Yba.underlying28 hi32 hz32 hy32 hb32 rfl (by omega) _ evs.length (evs.flatMap encW) rfl O1.out ⟨wr.heap.size + 1, 0, none⟩ 1 1 [.bool true, .int .i64 cur, .int .i64 st, .int .i64 0] rfl rfl (World.news_of_block (cs := #[.bool true, .int .i64 cur, .int .i64 st, .int .i64 0]) (t := 32) (fr := (0, 0)) (heap_alloc2_new wr _ _)) (by simp [Value.oneCell']) (by omega) (by unfold maxLen; omega) (by omega) (by simp; omega) (wr.heap.size + 2) (by simp) ?_)
        intro g1 cap1 w3 hown hgrow hat hlt3
        have HI2 : Hid (S2 w.heap.size w1.heap.size n xs w evs (evs ++ [⟨true, cur, st, 0, 0⟩]) cur pv (.slice (some ⟨g1, 0, none⟩) (evs.length + 1) cap1) w3) := ((HI.out.alloc _).alloc _).want ⟨true, cur, st, 0, 0⟩ hown hgrow
        have hbl3 : w1.heap.size < w3.heap.size := lt_of_heap HI2.out.bld
        clear hown hgrow hat hlt3 O1
        have O2 : Hid ((w3.alloc (.cells #[.bool false, .int .i64 0, .int .i64 0, .int .i64 i] 32)).ownsRow (w1.heap.size + 1) 32 4 (.slice (some ⟨g1, 0, none⟩) (evs.length + 1) cap1) (evs.length + 1) ((evs ++ [(⟨true, cur, st, 0, 0⟩ : Ev)]).flatMap encW)) := (by simpa using ((HI2.out).alloc (.cells #[.bool false, .int .i64 0, .int .i64 0, .int .i64 i] 32)).rowW : World.ownsRow _ _ _ _ _ _ _)
        go_wp2_with (at_builtin; refine wpList_append_lies _ rfl _ _ 28 rfl (w1.heap.size + 1) 32 i32 (.agg #[.bool false, .int .i64 0, .int .i64 0, .int .i64 0]) 4 32 Yba.underlying28 hi32 hz32 hy32 hb32 rfl (by omega) _ (evs.length + 1) ((evs ++ [(⟨true, cur, st, 0, 0⟩ : Ev)]).flatMap encW) rfl O2.out ⟨w3.heap.size, 0, none⟩ 1 1 [.bool false, .int .i64 0, .int .i64 0, .int .i64 i] rfl rfl (World.news_of_block (cs := #[.bool false, .int .i64 0, .int .i64 0, .int .i64 i]) (t := 32) (fr := (0, 0)) (heap_alloc_new w3 _)) (by simp [Value.oneCell']) (by omega) (by unfold maxLen; omega) (by omega) (by simp; omega) (w3.heap.size + 1) (by simp) ?_)
        intro g2 cap2 w4 hown2 hgrow2 hat2 hlt2
        have HJ : Hid (S2 w.heap.size w1.heap.size n xs w evs ((evs ++ [(⟨true, cur, st, 0, 0⟩ : Ev)]) ++ [⟨false, 0, 0, i, w4.heap.size⟩]) cur pv (.slice (some ⟨g2, 0, none⟩) (evs.length + 1 + 1) cap2) w4) := ((HI2.out).alloc _).want ⟨false, 0, 0, i, w4.heap.size⟩ (by simpa [encW] using hown2) hgrow2
        clear hown2 hgrow2 hat2 hlt2 O2
        have HMK : Hid ((w4.alloc (.cells #[.int .i64 i] 36)).heap[w4.heap.size]? = some (.cells #[.int .i64 i] 36 (0, 0))) := heap_alloc_new w4 _
        have HADD : Hid (Calls Yba.prog 4 #[.pointer (some ⟨w1.heap.size, 0, none⟩), markV w4.heap.size, .int .i64 st, .int .i64 en] (w4.alloc (.cells #[.int .i64 i] 36)) fun e w' => ∃ pv', e = .returned (.tuple #[]) ∧ Laid w1.heap.size w.heap.size n evs.length pv (evs.map (encP w.heap.size n)) (lits w.heap.size n cur st ++ [markV w4.heap.size]) en (w4.alloc (.cells #[.int .i64 i] 36)) pv' w') := add_any w1.heap.size w.heap.size n cur st evs.length w4.heap.size en pv _ _ (HJ.out.alloc _).bld (HJ.out.alloc _).rowP hst' (by omega)
        go_wp2_with fail
        try rw [hst]
        try rw [hen]
        refine HADD.out.mono ?_
        rintro e w5 ⟨pv5, rfl, hL5⟩
        have HK : Hid (S2 w.heap.size w1.heap.size n xs w (evs ++ news cur st i w4.heap.size) ((evs ++ [(⟨true, cur, st, 0, 0⟩ : Ev)]) ++ [⟨false, 0, 0, i, w4.heap.size⟩]) en pv5 (.slice (some ⟨g2, 0, none⟩) (evs.length + 1 + 1) cap2) w5) := (HJ.out.alloc _).add st en i w4.heap.size hst' hen' HMK.out hL5
        clear hL5 HADD HMK HJ
        go_wp2_with fail
        go_roundg (m - (i + 1))
        case measure => omega
        case rel =>
          refine ⟨i + 1, en, pv5, evs ++ news cur st i w4.heap.size, by go_num, by omega, Nat.le_refl _, by first | rfl | rw [hen], by simp [news, hlt]; omega, ?_⟩
          have e9 : (evs ++ [(⟨true, cur, st, 0, 0⟩ : Ev)]) ++ [⟨false, 0, 0, i, w4.heap.size⟩] = evs ++ news cur st i w4.heap.size := by simp [news, hlt]
          rw [e9] at HK
          exact HK
      · have hlt' : ¬ (cur : Int) < st := by omega
        have O2 : Hid (((wr.alloc (.cells #[.int .u8 x1, .int .u8 x2] 30)).alloc (.cells #[.bool false, .int .i64 0, .int .i64 0, .int .i64 i] 32)).ownsRow (w1.heap.size + 1) 32 4 u11 (evs.length) (evs.flatMap encW)) := (by simpa using (((HI.out.alloc _)).alloc (.cells #[.bool false, .int .i64 0, .int .i64 0, .int .i64 i] 32)).rowW : World.ownsRow _ _ _ _ _ _ _)
        go_wp2_with (at_builtin; refine wpList_append_lies _ rfl _ _ 28 rfl (w1.heap.size + 1) 32 i32 (.agg #[.bool false, .int .i64 0, .int .i64 0, .int .i64 0]) 4 32 Yba.underlying28 hi32 hz32 hy32 hb32 rfl (by omega) _ (evs.length) (evs.flatMap encW) rfl O2.out ⟨wr.heap.size + 1, 0, none⟩ 1 1 [.bool false, .int .i64 0, .int .i64 0, .int .i64 i] rfl rfl (World.news_of_block (cs := #[.bool false, .int .i64 0, .int .i64 0, .int .i64 i]) (t := 32) (fr := (0, 0)) (heap_alloc2_new wr _ _)) (by simp [Value.oneCell']) (by omega) (by unfold maxLen; omega) (by omega) (by simp; omega) (wr.heap.size + 2) (by simp) ?_)
        intro g2 cap2 w4 hown2 hgrow2 hat2 hlt2
        have HJ : Hid (S2 w.heap.size w1.heap.size n xs w evs (evs ++ [⟨false, 0, 0, i, w4.heap.size⟩]) cur pv (.slice (some ⟨g2, 0, none⟩) (evs.length + 1) cap2) w4) := (((HI.out.alloc _)).alloc _).want ⟨false, 0, 0, i, w4.heap.size⟩ (by simpa [encW] using hown2) hgrow2
        clear hown2 hgrow2 hat2 hlt2 O2
        have HMK : Hid ((w4.alloc (.cells #[.int .i64 i] 36)).heap[w4.heap.size]? = some (.cells #[.int .i64 i] 36 (0, 0))) := heap_alloc_new w4 _
        have HADD : Hid (Calls Yba.prog 4 #[.pointer (some ⟨w1.heap.size, 0, none⟩), markV w4.heap.size, .int .i64 st, .int .i64 en] (w4.alloc (.cells #[.int .i64 i] 36)) fun e w' => ∃ pv', e = .returned (.tuple #[]) ∧ Laid w1.heap.size w.heap.size n evs.length pv (evs.map (encP w.heap.size n)) (lits w.heap.size n cur st ++ [markV w4.heap.size]) en (w4.alloc (.cells #[.int .i64 i] 36)) pv' w') := add_any w1.heap.size w.heap.size n cur st evs.length w4.heap.size en pv _ _ (HJ.out.alloc _).bld (HJ.out.alloc _).rowP hst' (by omega)
        go_wp2_with fail
        try rw [hst]
        try rw [hen]
        refine HADD.out.mono ?_
        rintro e w5 ⟨pv5, rfl, hL5⟩
        have HK : Hid (S2 w.heap.size w1.heap.size n xs w (evs ++ news cur st i w4.heap.size) (evs ++ [⟨false, 0, 0, i, w4.heap.size⟩]) en pv5 (.slice (some ⟨g2, 0, none⟩) (evs.length + 1) cap2) w5) := (HJ.out.alloc _).add st en i w4.heap.size hst' hen' HMK.out hL5
        clear hL5 HADD HMK HJ
        go_wp2_with fail
        go_roundg (m - (i + 1))
        case measure => omega
        case rel =>
          refine ⟨i + 1, en, pv5, evs ++ news cur st i w4.heap.size, by go_num, by omega, Nat.le_refl _, by first | rfl | rw [hen], by simp [news, hlt]; omega, ?_⟩
          have e9 : evs ++ [⟨false, 0, 0, i, w4.heap.size⟩] = evs ++ news cur st i w4.heap.size := by simp [news, hlt]
          rw [e9] at HK
          exact HK
    · have him2 : i = m := by omega
      subst him2
      have hbl : w1.heap.size < wr.heap.size := lt_of_heap HI.out.bld
      obtain ⟨pa, pc, rfl, hpa⟩ := row_form HI.out.rowP
      obtain ⟨wa, wc, rfl, hwa⟩ := row_form HI.out.rowW
      have HPA : Hid (0 < evs.length → ∃ g, pa = some ⟨g, 0, none⟩) := hpa
      have HWA : Hid (0 < evs.length → ∃ g, wa = some ⟨g, 0, none⟩) := hwa
      clear hpa hwa
      have b1 : wr.cell? ⟨w1.heap.size, 1, none⟩ = some (.slice pa evs.length pc) := (Lib.cell_of_heap HI.out.bld 1).trans rfl
      have b2 : wr.cell? ⟨w1.heap.size, 2, none⟩ = some (.int .i64 cur) := (Lib.cell_of_heap HI.out.bld 2).trans rfl
      have hevs : evs.length ≤ 2048 := by omega
      go_wp2_with fail
      go_loopg [17] evs.length (fun kx s17 wr2 => ∃ k : Nat, s17 = .int .i64 k ∧ k ≤ evs.length ∧ evs.length - k ≤ kx ∧ Hid (S2 w.heap.size w1.heap.size n xs w evs evs cur (.slice pa evs.length pc) (.slice wa evs.length wc) wr2))
      case atStart => exact ⟨0, rfl, by omega, by omega, HI⟩
      case round =>
        obtain ⟨k, rfl, hk, hgk, HR⟩ := hrel
        by_cases hkl : k < evs.length
        · obtain ⟨pg, rfl⟩ := HPA.out (by omega)
          obtain ⟨wg, rfl⟩ := HWA.out (by omega)
          have cp := cells_P HR.out.rowP k hkl
          obtain ⟨cw0, cw1, cw2, cw3⟩ := cells_W HR.out.rowW k hkl
          have b1 : wr.cell? ⟨w1.heap.size, 1, none⟩ = some (.slice (some ⟨pg, 0, none⟩) evs.length pc) := (Lib.cell_of_heap HR.out.bld 1).trans rfl
          have hins := HR.out.inside evs[k] (List.getElem_mem _)
          have hmk := HR.out.marks evs[k] (List.getElem_mem _)
          have hk1 : (k : Int) < evs.length := by omega
          have hk0 : (0 : Int) ≤ k := by omega
          have lb : w.heap.size < wr.heap.size := lt_of_heap HR.out.body
          have l1 : w1.heap.size < wr.heap.size := lt_of_heap HR.out.bld
          have l2 := World.block_lt_of_cell? wr _ cp
          have l3 := World.block_lt_of_cell? wr _ cw0
          simp only at l2 l3
          unfold encP at cp
          generalize evs[k] = ev at *
          obtain ⟨lit, lo, hi', id, blk⟩ := ev
          simp only at cp cw0 cw1 cw2 cw3 hins hmk
          cases lit
          · simp only [Bool.false_eq_true, if_false, markV] at cp
            have cm : wr.cell? ⟨blk, 0, none⟩ = some (.int .i64 id) := (Lib.cell_of_heap (hmk rfl) 0).trans rfl
            have l4 : blk < wr.heap.size := lt_of_heap (hmk rfl)
            have t34 := ta34
            clear hins hmk
            go_wp2_with fail
            go_quiet (fail)
            go_wp2_with fail
            go_roundg (evs.length - (k + 1))
            case measure => omega
            case rel => exact ⟨k + 1, by go_num, by omega, Nat.le_refl _, (HR.out.alloc _).drewN _⟩
          · simp only [if_true, litV] at cp
            obtain ⟨j1, j2⟩ := hins rfl
            have j3 : (lo : Int) ≤ hi' := by omega
            have j4 : (hi' : Int) ≤ n := by omega
            have j5 : (0 : Int) ≤ lo := by omega
            clear hins hmk
            have HEQ : ∀ o : Obj, Hid (Calls Yba.prog 5 #[.slice (some ⟨w.heap.size, lo, none⟩) (hi' - lo) (n - lo), .slice (some ⟨w.heap.size, lo, none⟩) (hi' - lo) (n - lo)] (wr.alloc o) fun e w' => e = .returned (.bool true) ∧ w' = wr.alloc o) := fun o =>
              (equal_same _ _ _ _ _ ((xs.drop lo).take (hi' - lo)) _ (by simp; omega) (part_bytes (HR.out.alloc o).body lo hi' (by omega)) (part_bytes (HR.out.alloc o).body lo hi' (by omega)) : Calls _ _ _ _ _)
            have t37 := ta37
            go_wp2_with fail
            refine (HEQ _).out.mono ?_
            rintro e w6 ⟨rfl, rfl⟩
            go_wp2_with fail
            go_roundg (evs.length - (k + 1))
            case measure => omega
            case rel => exact ⟨k + 1, by go_num, by omega, Nat.le_refl _, HR.out.alloc _⟩
        · have hkl2 : k = evs.length := by omega
          subst hkl2
          have b1 : wr.cell? ⟨w1.heap.size, 1, none⟩ = some (.slice pa evs.length pc) := (Lib.cell_of_heap HR.out.bld 1).trans rfl
          have HFIN : Hid (Calls Yba.prog 5 #[.slice (some ⟨w.heap.size, 0, none⟩) n n, .slice p n c] wr fun e w' => e = .returned (.bool true) ∧ w' = wr) :=
            equal_same _ _ _ _ _ xs _ hn (part_whole HR.out.body) (bytes_below HB.out HR.out.old (Nat.le_refl _))
          go_wp2_with fail
          refine HFIN.out.mono ?_
          rintro e w6 ⟨rfl, rfl⟩
          go_wp2_with fail
          go_ret
          exact ⟨rfl, HR.out.old⟩
end Go.Proofs.Ybulkddgc
