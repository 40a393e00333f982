/-
  THE WALKS of FormPreferring (11), at no preference, and Form (9).
-/
import Derived.Test.YbulkdczqFmtHas
namespace Go.Proofs.YbulkdczqFmt
open Go.RowKit

/-- The structure as an interface value. -/
def stV (sb : Nat) : Value := .iface 27 (.pointer (some ⟨sb, 0, none⟩))
theorem m_nodes (a : Addr) (w : World) : (method 181 27 (.pointer (some a)) "Nodes").run Ybaf.prog w = .ok (36, .pointer (some a)) w := by kernel_rfl
theorem m_has (a : Addr) (w : World) : (method 181 27 (.pointer (some a)) "HasQuorum").run Ybaf.prog w = .ok (35, .pointer (some a)) w := by kernel_rfl
theorem m_quorums (a : Addr) (w : World) : (method 181 27 (.pointer (some a)) "Quorums").run Ybaf.prog w = .ok (37, .pointer (some a)) w := by kernel_rfl

/-- Between two rounds of the forming: the set under way lies in block g, its header in qb. -/
structure LI (w : World) (rb qb g c n q x : Nat) (wr : World) : Prop where
  bel : Below w.heap.size w wr
  word : Word wr g x
  box : wr.heap[qb]? = some (.cells #[.int .i64 n, .slice (some ⟨g, 0, none⟩) 1 c] 36 (0, 0))
  hg : w.heap.size ≤ g
  hqb : w.heap.size ≤ qb
  hne : g ≠ qb
  le : x ≤ q
  res : wr.heap[rb]? = some (.cells #[.int .i64 0, .slice none 0 0] 36 (0, 0))
  hgr : g ≠ rb
theorem LI.read {w : World} {rb qb g c n q x : Nat} {wr w2 : World} (h : LI w rb qb g c n q x wr) (hb : Below wr.heap.size wr w2) : LI w rb qb g c n q x w2 :=
  ⟨h.bel.trans (hb.mono h.bel.size), h.word.below hb h.word.lt, (hb.block qb (Array.getElem?_eq_some_iff.1 h.box).1).trans h.box, h.hg, h.hqb, h.hne, h.le, (hb.block rb (Array.getElem?_eq_some_iff.1 h.res).1).trans h.res, h.hgr⟩
theorem LI.write {w : World} {rb qb g c n q x y : Nat} {wr w2 : World} (h : LI w rb qb g c n q x wr) (hb : Below wr.heap.size (wr.setCell ⟨g, 0, none⟩ (.int .u64 y)) w2) (hy : y ≤ q) : LI w rb qb g c n q y w2 where
  bel := (h.bel.setCell (p := ⟨g, 0, none⟩) h.hg _).trans (hb.mono h.bel.size)
  word := (h.word.set y).below hb h.word.lt
  box := (hb.block qb (Array.getElem?_eq_some_iff.1 h.box).1).trans ((heap_setCell_other wr 0 _ h.hne.symm).trans h.box)
  hg := h.hg
  hqb := h.hqb
  hne := h.hne
  le := hy
  res := (hb.block rb (Array.getElem?_eq_some_iff.1 h.res).1).trans ((heap_setCell_other wr 0 _ h.hgr.symm).trans h.res)
  hgr := h.hgr

theorem results_cell_tmp {fn : Func} {p r : Tmp} (h : fn.results = #[.cell p 36, .tmp r]) (tmps : Array Value) (w : World) (g : Nat) (t : TypeId) (v0 v1 u : Value)
    (hp : tmps.getD p undef = .pointer (some ⟨g, 0, none⟩)) (hr : tmps.getD r undef = u) (hg : w.heap[g]? = some (.cells #[v0, v1] t (0, 0))) :
    (results fn tmps).run Ybaf.prog w = .ok (.tuple #[.agg #[v0, v1], u]) w := by
  have hp' : tmps[p]?.getD undef = .pointer (some ⟨g, 0, none⟩) := by simpa using hp
  have hr' : tmps[r]?.getD undef = u := by simpa using hr
  simp [results, h, hp', hr', asAddr, run_loadVar_row w g t 36 #[v0, v1] (0, 0) _ hg Ybaf.underlying36 rfl (by kernel_rfl)]

theorem greedy_keep {H : Nat → Bool} {k x : Nat} (h : x.testBit k = false) : greedy H (k + 1) x = greedy H k x := by
  rw [greedy, if_pos ((and_pow_zero x k).2 h)]
theorem greedy_drop {H : Nat → Bool} {k x : Nat} (h : x.testBit k = true) (hH : H (sub x (2 ^ k)) = true) : greedy H (k + 1) x = greedy H k (sub x (2 ^ k)) := by
  rw [greedy, if_neg (fun e => by rw [(and_pow_zero x k).1 e] at h; cases h), if_pos hH]
theorem greedy_need {H : Nat → Bool} {k x : Nat} (h : x.testBit k = true) (hH : H (sub x (2 ^ k)) = false) : greedy H (k + 1) x = greedy H k x := by
  rw [greedy, if_neg (fun e => by rw [(and_pow_zero x k).1 e] at h; cases h), if_neg (by rw [hH]; simp)]

set_option maxHeartbeats 2000000 in
theorem prefer_any (sb n : Nat) (al bl : List Nat) (hL : Lists al bl) (op : Bool) (b c q : Nat) (hq64 : q < 2 ^ 64) (w : World) (hS : St sb n al bl w) (hW : Word w b q) :
    Calls Ybaf.prog 11 #[stV sb, .int .i64 (if op then 1 else 0), setV n b c, .slice none 0 0] w fun e w' => Below w.heap.size w w' ∧
      ((hq (pick op al bl) q = false ∧ e = .returned (.tuple #[.agg #[.int .i64 0, .slice none 0 0], .bool false])) ∨
       (hq (pick op al bl) q = true ∧ ∃ g c', e = .returned (.tuple #[setV n g c', .bool true]) ∧ w.heap.size ≤ g ∧ Word w' g (greedy (hq (pick op al bl)) n q))) := by
  have hp := hS.pos
  have ht := hS.top
  have HNd : Hid (∀ w', Below w.heap.size w w' → Calls Ybaf.prog 36 #[.pointer (some ⟨sb, 0, none⟩)] w' fun e w'' => e = .returned (.int .i64 n) ∧ w'' = w') := fun w' hb => nodes_any sb n al bl w' (hS.below hb (Nat.le_refl _))
  have HHq : Hid (∀ b c x w', Below w.heap.size w w' → x < 2 ^ 64 → Word w' b x → Calls Ybaf.prog 35 #[.pointer (some ⟨sb, 0, none⟩), .int .i64 (if op then 1 else 0), setV n b c] w' fun e w'' => e = .returned (.bool (hq (pick op al bl) x)) ∧ Below w'.heap.size w' w'') :=
    fun b c x w' hb hx hw => hasq_any sb n al bl hL op b c x hx w' (hS.below hb (Nat.le_refl _)) hw
  have HCl : Hid (∀ w', Below w.heap.size w w' → Calls Ybaf.prog 12 #[setV n b c] w' fun e w'' => (∃ g c', e = .returned (setV n g c') ∧ w'.heap.size ≤ g ∧ Word w'' g q) ∧ Below w'.heap.size w' w'') := fun w' hb => clone_any n b c q w' (hW.below hb hW.lt)
  have HW : Hid (Word w b q) := hW
  clear hS hL hW
  generalize hq (pick op al bl) = H at *
  generalize (if op = true then (1 : Int) else 0) = oi at *
  unfold stV setV at *
  have mn := m_nodes
  have mh := m_has
  have e1 : ((n : Int) != (n : Int)) = false := by simp
  have BL2 : Hid (∀ o o2, Below w.heap.size w ((w.alloc o).alloc o2)) := fun o o2 => (((Below.refl _ w).alloc (Nat.le_refl _) _).alloc (by simp) _)
  go_enter Ybaf.func11, Ybaf.ntmps11
  go_wp2_with fail
  refine (HNd.out _ (BL2.out _ _)).mono ?_
  rintro e w1 ⟨rfl, hw1⟩
  subst hw1
  go_wp2_with fail
  refine (HHq.out b c q _ (BL2.out _ _) hq64 ((HW.out.alloc _).alloc _)).mono ?_
  rintro e w2 ⟨rfl, hb2⟩
  have HX : Hid (w2.heap[w.heap.size]? = some (.cells #[.int .i64 n, .slice (some ⟨b, 0, none⟩) 1 c] 36 (0, 0))) := Below.keeps hb2 (by simp; omega) (heap_alloc2_fst w _ _)
  have HR : Hid (w2.heap[w.heap.size + 1]? = some (.cells #[.int .i64 0, .slice none 0 0] 36 (0, 0))) := Below.keeps hb2 (by simp) (heap_alloc2_new w _ _)
  have HB2 : Hid (Below w.heap.size w w2) := (BL2.out _ _).trans (hb2.mono (by simp; omega))
  have hs2 : w.heap.size + 2 ≤ w2.heap.size := by have := hb2.size; simpa using this
  have x0 : w2.cell? ⟨w.heap.size, 0, none⟩ = some (.int .i64 n) := (Lib.cell_of_heap HX.out 0).trans rfl
  have x1 : w2.cell? ⟨w.heap.size, 1, none⟩ = some (.slice (some ⟨b, 0, none⟩) 1 c) := (Lib.cell_of_heap HX.out 1).trans rfl
  have r0 : w2.cell? ⟨w.heap.size + 1, 0, none⟩ = some (.int .i64 0) := (Lib.cell_of_heap HR.out 0).trans rfl
  have r1 : w2.cell? ⟨w.heap.size + 1, 1, none⟩ = some (.slice none 0 0) := (Lib.cell_of_heap HR.out 1).trans rfl
  have f0 : w2.frozen? ⟨w.heap.size + 1, 0, none⟩ = false := Lib.frozen_of_heap HR.out 0
  have f1 : w2.frozen? ⟨w.heap.size + 1, 1, none⟩ = false := Lib.frozen_of_heap HR.out 1
  clear hb2
  cases hH : H q
  · go_wp2_with fail
    refine bodyPost_ret (results_cell_tmp (p := 8) (r := 9) rfl _ _ (w.heap.size + 1) 36 _ _ _ rfl rfl (two_cells HR.out)) rfl ?_
    exact ⟨(HB2.out.setCell (p := ⟨w.heap.size + 1, 0, none⟩) (by simp) _).setCell (p := ⟨w.heap.size + 1, 1, none⟩) (by simp) _, Or.inl ⟨hH, rfl⟩⟩
  · go_wp2_with fail
    refine (HCl.out _ HB2.out).mono ?_
    rintro e w3 ⟨⟨g, c', rfl, hg, hwd⟩, hb3⟩
    have HR3 : Hid (w3.heap[w.heap.size + 1]? = some (.cells #[.int .i64 0, .slice none 0 0] 36 (0, 0))) := Below.keeps hb3 (by omega) HR.out
    have hs3 := hb3.size
    have HI0 : Hid (LI w (w.heap.size + 1) w3.heap.size g c' n q q (w3.alloc (.cells #[.int .i64 n, .slice (some ⟨g, 0, none⟩) 1 c'] 36))) :=
      ⟨(HB2.out.trans (hb3.mono (by omega))).alloc (by omega) _, hwd.alloc _, heap_alloc_new _ _, by omega, by omega, by have := hwd.lt; omega, Nat.le_refl _, (heap_alloc_old _ _ (by omega)).trans HR3.out, by omega⟩
    clear hb3 hwd x0 x1 r0 r1 f0 f1 HX HR HB2
    go_wp2_with fail
    go_loopg [12] n (fun kx s wr => ∃ k x : Nat, s = .int .i64 k ∧ k ≤ n ∧ k ≤ kx ∧ Hid (LI w (w.heap.size + 1) w3.heap.size g c' n q x wr ∧ greedy H k x = greedy H n q))
    case atStart => exact ⟨n, q, rfl, Nat.le_refl _, Nat.le_refl _, HI0.out, rfl⟩
    case round =>
      obtain ⟨k, x, rfl, hkn, hkx, HI⟩ := hrel
      have y0 : wr.cell? ⟨w3.heap.size, 0, none⟩ = some (.int .i64 n) := (Lib.cell_of_heap HI.out.1.box 0).trans rfl
      have y1 : wr.cell? ⟨w3.heap.size, 1, none⟩ = some (.slice (some ⟨g, 0, none⟩) 1 c') := (Lib.cell_of_heap HI.out.1.box 1).trans rfl
      cases k with
      | zero =>
        have r0 : wr.cell? ⟨w.heap.size + 1, 0, none⟩ = some (.int .i64 0) := (Lib.cell_of_heap HI.out.1.res 0).trans rfl
        have r1 : wr.cell? ⟨w.heap.size + 1, 1, none⟩ = some (.slice none 0 0) := (Lib.cell_of_heap HI.out.1.res 1).trans rfl
        have f0 : wr.frozen? ⟨w.heap.size + 1, 0, none⟩ = false := Lib.frozen_of_heap HI.out.1.res 0
        have f1 : wr.frozen? ⟨w.heap.size + 1, 1, none⟩ = false := Lib.frozen_of_heap HI.out.1.res 1
        go_wp2_with fail
        refine bodyPost_ret (results_cell_tmp (p := 8) (r := 9) rfl _ _ (w.heap.size + 1) 36 _ _ _ rfl rfl (two_cells HI.out.1.res)) rfl ?_
        refine ⟨(HI.out.1.bel.setCell (p := ⟨w.heap.size + 1, 0, none⟩) (by simp) _).setCell (p := ⟨w.heap.size + 1, 1, none⟩) (by simp) _, Or.inr ⟨hH, g, c', rfl, HI.out.1.hg, ?_⟩⟩
        rw [← HI.out.2]
        exact Word.other (Word.other HI.out.1.word HI.out.1.hgr) HI.out.1.hgr
      | succ k =>
        have z0 : (1 : Int) ≤ (k : Int) + 1 := by omega
        have hx64 : x < 2 ^ 64 := Nat.lt_of_le_of_lt HI.out.1.le hq64
        have HHas : Hid (Calls Ybaf.prog 15 #[.agg #[.int .i64 n, .slice (some ⟨g, 0, none⟩) 1 c'], .int .i64 ((k : Int) + 1)] wr fun e w' => e = .returned (.bool (x.testBit k)) ∧ Below wr.heap.size wr w') := has_any n g c' (k + 1) x (by omega) hkn ht hx64 wr HI.out.1.word.cell
        have HRem : Hid (∀ w', Word w' g x → Calls Ybaf.prog 16 #[.agg #[.int .i64 n, .slice (some ⟨g, 0, none⟩) 1 c'], .int .i64 ((k : Int) + 1)] w' fun e w'' => e = .returned (.tuple #[]) ∧ Below w'.heap.size (w'.setCell ⟨g, 0, none⟩ (.int .u64 (sub x (2 ^ k) : Nat))) w'') := fun w' hw => remove_any n g c' (k + 1) x (by omega) hkn ht hx64 w' hw
        have HAdd : Hid (∀ w', Word w' g (sub x (2 ^ k)) → Calls Ybaf.prog 17 #[.agg #[.int .i64 n, .slice (some ⟨g, 0, none⟩) 1 c'], .int .i64 ((k : Int) + 1)] w' fun e w'' => e = .returned (.tuple #[]) ∧ Below w'.heap.size (w'.setCell ⟨g, 0, none⟩ (.int .u64 (sub x (2 ^ k) ||| 2 ^ k : Nat))) w'') := fun w' hw => add_any n g c' (k + 1) (sub x (2 ^ k)) (by omega) hkn ht (Nat.lt_of_le_of_lt (sub_le _ _) hx64) w' hw
        go_wp2_with fail
        refine HHas.out.mono ?_
        rintro e w4 ⟨rfl, hb4⟩
        have HI4 : Hid (LI w (w.heap.size + 1) w3.heap.size g c' n q x w4) := HI.out.1.read hb4
        have z3 : w4.cell? ⟨w3.heap.size, 0, none⟩ = some (.int .i64 n) := (Lib.cell_of_heap HI4.out.box 0).trans rfl
        have z4 : w4.cell? ⟨w3.heap.size, 1, none⟩ = some (.slice (some ⟨g, 0, none⟩) 1 c') := (Lib.cell_of_heap HI4.out.box 1).trans rfl
        clear hb4 y0 y1
        cases htb : x.testBit k
        · have HG : Hid (greedy H k x = greedy H n q) := (greedy_keep htb).symm.trans HI.out.2
          go_wp2_with fail
          go_roundg k
          case measure => omega
          case rel => exact ⟨k, x, by go_num, by omega, Nat.le_refl _, HI4.out, HG.out⟩
        · go_wp2_with fail
          refine (HRem.out _ HI4.out.word).mono ?_
          rintro e w5 ⟨rfl, hb5⟩
          have HI5 : Hid (LI w (w.heap.size + 1) w3.heap.size g c' n q (sub x (2 ^ k)) w5) := HI4.out.write hb5 (Nat.le_trans (sub_le _ _) HI4.out.le)
          have z5 : w5.cell? ⟨w3.heap.size, 0, none⟩ = some (.int .i64 n) := (Lib.cell_of_heap HI5.out.box 0).trans rfl
          have z6 : w5.cell? ⟨w3.heap.size, 1, none⟩ = some (.slice (some ⟨g, 0, none⟩) 1 c') := (Lib.cell_of_heap HI5.out.box 1).trans rfl
          clear hb5
          go_wp2_with fail
          refine (HHq.out g c' (sub x (2 ^ k)) _ HI5.out.bel (Nat.lt_of_le_of_lt (sub_le _ _) hx64) HI5.out.word).mono ?_
          rintro e w6 ⟨rfl, hb6⟩
          have HI6 : Hid (LI w (w.heap.size + 1) w3.heap.size g c' n q (sub x (2 ^ k)) w6) := HI5.out.read hb6
          have z7 : w6.cell? ⟨w3.heap.size, 0, none⟩ = some (.int .i64 n) := (Lib.cell_of_heap HI6.out.box 0).trans rfl
          have z8 : w6.cell? ⟨w3.heap.size, 1, none⟩ = some (.slice (some ⟨g, 0, none⟩) 1 c') := (Lib.cell_of_heap HI6.out.box 1).trans rfl
          clear hb6
          cases hHx : H (sub x (2 ^ k))
          · have HG : Hid (greedy H k x = greedy H n q) := (greedy_need htb hHx).symm.trans HI.out.2
            go_wp2_with fail
            refine (HAdd.out _ HI6.out.word).mono ?_
            rintro e w7 ⟨rfl, hb7⟩
            rw [sub_or x k hx64 (by omega) htb] at hb7
            have HI7 : Hid (LI w (w.heap.size + 1) w3.heap.size g c' n q x w7) := HI6.out.write hb7 HI4.out.le
            clear hb7
            go_wp2_with fail
            go_roundg k
            case measure => omega
            case rel => exact ⟨k, x, by go_num, by omega, Nat.le_refl _, HI7.out, HG.out⟩
          · have HG : Hid (greedy H k (sub x (2 ^ k)) = greedy H n q) := (greedy_drop htb hHx).symm.trans HI.out.2
            go_wp2_with fail
            go_roundg k
            case measure => omega
            case rel => exact ⟨k, sub x (2 ^ k), by go_num, by omega, Nat.le_refl _, HI6.out, HG.out⟩
end Go.Proofs.YbulkdczqFmt
