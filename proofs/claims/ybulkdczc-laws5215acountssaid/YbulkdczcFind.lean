/-
  THE WALK of slices.BinarySearchFunc at letters (11).
-/
import Derived.Test.YbulkdczcCmp
import Derived.Deep.LoopGhost
import Derived.Deep.QuietTactic
import Derived.BigQuiet
import Derived.Shelf.GgSortFunc.RowK
namespace Go.Proofs.Ybulkdczc
open Go.RowKit Go.Sort

/-- A world that has come of w by draws and new blocks alone. -/
def Grew (w w' : World) : Prop := ∃ q os, w' = grow (w.drewN q) os

theorem Grew.refl (w : World) : Grew w w := ⟨0, #[], by rw [grow_empty]; rfl⟩
theorem Grew.more {w w' : World} (h : Grew w w') (n : Nat) (os : Array Obj) : Grew w (grow (w'.drewN n) os) := by
  obtain ⟨q, os0, rfl⟩ := h
  refine ⟨q + n, os0 ++ os, ?_⟩
  show grow (grow ((w.drewN q).drewN n) os0) os = _
  rw [grow_grow, World.drewN_drewN]
theorem Grew.trans {a b c : World} (h : Grew a b) (k : Grew b c) : Grew a c := by
  obtain ⟨q, os, rfl⟩ := k
  exact h.more q os
theorem Grew.alloc {a b : World} (h : Grew a b) (o : Obj) : Grew a (b.alloc o) := by
  have := h.more 0 #[o]
  rw [alloc_eq_grow]; exact this
theorem Grew.drew {a b : World} (h : Grew a b) : Grew a b.drew := by
  have := h.more 1 #[]
  rw [grow_empty] at this; exact this
theorem Grew.drewN {a b : World} (h : Grew a b) (n : Nat) : Grew a (b.drewN n) := by
  have := h.more n #[]
  rw [grow_empty] at this; exact this
theorem Grew.size {w w' : World} (h : Grew w w') : w.heap.size ≤ w'.heap.size := by
  obtain ⟨q, os, rfl⟩ := h
  rw [size_grow]; exact Nat.le_add_right _ _
theorem Grew.cell {w w' : World} (h : Grew w w') {a : Addr} {v : Value} (hb : a.block < w.heap.size) (hc : w.cell? a = some v) : w'.cell? a = some v := by
  obtain ⟨q, os, rfl⟩ := h
  exact cell_grown hb hc q os
theorem Grew.below {w w' : World} (h : Grew w w') : Below w.heap.size w w' := by
  obtain ⟨q, os, rfl⟩ := h
  refine ⟨rfl, rfl, rfl, by rw [size_grow]; exact Nat.le_add_right _ _, fun k hk => ?_⟩
  show (w.heap ++ os)[k]? = _
  rw [Array.getElem?_append_left hk]

/-- The three cells of element i. -/
theorem three {w : World} {blk off : Nat} {d : Array Let} (h : HoldsK encL 3 w blk off d) {i : Nat} (hi : i < d.size) :
    w.cell? ⟨blk, off + i * 3, none⟩ = some (.int .u32 d[i]!.1.toNat) ∧ w.cell? ⟨blk, off + i * 3 + 1, none⟩ = some (.int .u32 d[i]!.2.1.toNat) ∧ w.cell? ⟨blk, off + i * 3 + 2, none⟩ = some (.int .u32 d[i]!.2.2.toNat) := by
  refine ⟨?_, ?_, ?_⟩
  · have := (h.cell hi (c := 0) (by omega)).1; simpa [encL] using this
  · have := (h.cell hi (c := 1) (by omega)).1; simpa [encL] using this
  · have := (h.cell hi (c := 2) (by omega)).1; simpa [encL] using this

theorem count_bd {α : Type} (p : α → Bool) (l : List α) (i : Nat) (hi : i ≤ l.length) (h1 : ∀ j (_ : j < i) (h : j < l.length), p l[j] = true) (h2 : ∀ j (_ : i ≤ j) (h : j < l.length), p l[j] = false) : l.countP p = i := by
  have e : l.countP p = (l.take i).countP p + (l.drop i).countP p := by
    rw [← List.countP_append, List.take_append_drop]
  have e1 : (l.take i).countP p = (l.take i).length := by
    rw [List.countP_eq_length]
    intro x hx
    obtain ⟨j, hj, rfl⟩ := List.getElem_of_mem hx
    rw [List.getElem_take]
    exact h1 j (by simp at hj; omega) _
  have e2 : (l.drop i).countP p = 0 := by
    rw [List.countP_eq_zero]
    intro x hx
    obtain ⟨j, hj, rfl⟩ := List.getElem_of_mem hx
    rw [List.getElem_drop]
    rw [h2 (i + j) (by omega) (by simp at hj; omega)]
    simp
  rw [e, e1, e2]; simp; omega

theorem cfL_lt (x y : Let) : cfL x y < 0 ↔ ch x < ch y := by
  unfold cfL Lib.compareInt
  by_cases h1 : (ch x : Int) < (ch y : Int)
  · simp [h1]; omega
  · by_cases h2 : (ch y : Int) < (ch x : Int) <;> simp [h1, h2] <;> omega

set_option maxHeartbeats 1000000 in
set_option maxRecDepth 100000 in
theorem bsearch_any (t : Let) (blk off cap : Nat) (d : Array Let) (w : World) (hblk : blk < w.heap.size) (hH : HoldsK encL 3 w blk off d) (hsz : d.size ≤ 1024)
    (hmono : ∀ a b, a ≤ b → b < d.size → ch d[b]! < ch t → ch d[a]! < ch t) :
    Calls Yba.prog 11 #[.slice (some ⟨blk, off, none⟩) d.size cap, .agg (encL t).toArray, .func (.func 10) #[] #[]] w fun e w' =>
      ∃ b, e = .returned (.tuple #[.int .i64 (d.toList.countP (fun x => decide (ch x < ch t)) : Nat), .bool b]) ∧ Grew w w' := by
  have eg : ∀ args w, (callFunc 10 args).run Yba.prog w = .ok (.enter 10 args) w := enters_of Yba.func10 (by kernel_rfl) rfl
  have mixed := Yba.mixed
  have H1 : Aside _ := hH
  have M : Aside _ := hmono
  have CC : Aside (∀ (x : Let) (W : World), _) := fun (x : Let) (W : World) => channelCompare_any x t W
  clear hH hmono
  generalize hcnt : d.toList.countP (fun x => decide (ch x < ch t)) = cnt
  have CN : Aside _ := hcnt
  clear hcnt
  obtain ⟨t0, t1, t2⟩ := t
  simp only [encL]
  generalize he0 : t0.toNat = e0
  generalize he1 : t1.toNat = e1
  generalize he2 : t2.toNat = e2
  have E : Aside (t0.toNat = e0 ∧ t1.toNat = e1 ∧ t2.toNat = e2) := ⟨he0, he1, he2⟩
  clear he0 he1 he2
  go_enter Yba.func11, Yba.ntmps11
  go_wp2_with fail
  have hb1 : ∀ o, (w.alloc o).heap.size = w.heap.size + 1 := fun o => by simp
  have HH1 : Aside (HoldsK encL 3 (w.alloc (Obj.cells #[Value.int IntKind.u32 e0, Value.int IntKind.u32 e1, Value.int IntKind.u32 e2] 28)) blk off d) := by
    rw [alloc_eq_grow]; exact holdsK_grow encL 3 w _ blk off d hblk H1.out
  have z1 : (w.alloc (Obj.cells #[Value.int IntKind.u32 e0, Value.int IntKind.u32 e1, Value.int IntKind.u32 e2] 28)).cell? ⟨w.heap.size, 0, none⟩ = some (.int .u32 e0) := by simp
  have z2 : (w.alloc (Obj.cells #[Value.int IntKind.u32 e0, Value.int IntKind.u32 e1, Value.int IntKind.u32 e2] 28)).cell? ⟨w.heap.size, 1, none⟩ = some (.int .u32 e1) := by simp
  have z3 : (w.alloc (Obj.cells #[Value.int IntKind.u32 e0, Value.int IntKind.u32 e1, Value.int IntKind.u32 e2] 28)).cell? ⟨w.heap.size, 2, none⟩ = some (.int .u32 e2) := by simp
  have G0 : Aside (Grew w (w.alloc (Obj.cells #[Value.int IntKind.u32 e0, Value.int IntKind.u32 e1, Value.int IntKind.u32 e2] 28))) := (Grew.refl w).alloc _
  have hz := hb1 (Obj.cells #[Value.int IntKind.u32 e0, Value.int IntKind.u32 e1, Value.int IntKind.u32 e2] 28)
  clear hb1
  generalize hw1 : w.alloc (Obj.cells #[Value.int IntKind.u32 e0, Value.int IntKind.u32 e1, Value.int IntKind.u32 e2] 28) = w1 at *
  clear hw1
  have Z : Aside (w1.heap.size = w.heap.size + 1 ∧ w1.cell? ⟨w.heap.size, 0, none⟩ = some (.int .u32 e0) ∧ w1.cell? ⟨w.heap.size, 1, none⟩ = some (.int .u32 e1) ∧ w1.cell? ⟨w.heap.size, 2, none⟩ = some (.int .u32 e2)) := ⟨hz, z1, z2, z3⟩
  clear hz z1 z2 z3
  go_loopg [9, 10] d.size (fun kx s9 s10 wr => ∃ lo hi : Nat, s9 = .int .i64 lo ∧ s10 = .int .i64 hi ∧ lo ≤ hi ∧ hi ≤ d.size ∧ hi - lo ≤ kx ∧ Aside (Grew w1 wr) ∧
    Aside ((∀ j, j < lo → ch d[j]! < ch (t0, t1, t2)) ∧ (∀ j, hi ≤ j → j < d.size → ¬ ch d[j]! < ch (t0, t1, t2))))
  case atStart => exact ⟨0, d.size, rfl, rfl, Nat.zero_le _, Nat.le_refl _, by omega, Grew.refl _, (⟨fun j h => absurd h (Nat.not_lt_zero _), fun j h h' => absurd h' (by omega)⟩ : _ ∧ _)⟩
  case round =>
    obtain ⟨lo, hi, rfl, rfl, hlh, hin, hg, S1, I⟩ := hrel
    have l4 := fun n os => ((S1.out.more n os).cell (by show w.heap.size < _; rw [Z.out.1]; omega) Z.out.2.1)
    have l5 := fun n os => ((S1.out.more n os).cell (by show w.heap.size < _; rw [Z.out.1]; omega) Z.out.2.2.1)
    have l6 := fun n os => ((S1.out.more n os).cell (by show w.heap.size < _; rw [Z.out.1]; omega) Z.out.2.2.2)
    have hb1 : blk < w1.heap.size := by rw [Z.out.1]; omega
    by_cases hlt : lo < hi
    · have c := three HH1.out (i := (lo + hi) / 2) (by omega)
      have l1 := fun n os => ((S1.out.more n os).cell hb1 c.1)
      have l2 := fun n os => ((S1.out.more n os).cell hb1 c.2.1)
      have l3 := fun n os => ((S1.out.more n os).cell hb1 c.2.2)
      clear c
      have hcc := fun W => CC.out d[(lo + hi) / 2]! W
      simp only [encL] at hcc
      rw [E.out.1, E.out.2.1, E.out.2.2] at hcc
      have hr := cfL_lt d[(lo + hi) / 2]! (t0, t1, t2)
      have R : Aside _ := hr
      clear hr
      generalize cfL d[(lo + hi) / 2]! (t0, t1, t2) = r at *
      generalize hy : d[(lo + hi) / 2]! = y at *
      have Y : Aside _ := hy
      clear hy
      have HC : Aside _ := hcc
      clear hcc
      obtain ⟨m, hm⟩ : ∃ m : Nat, ((lo : Int) + (hi : Int)) / 2 = (m : Int) := ⟨(lo + hi) / 2, by omega⟩
      have hmm : (lo + hi) / 2 = m := by omega
      rw [hmm] at l1 l2 l3
      have MM : Aside ((lo + hi) / 2 = m ∧ ((lo : Int) + (hi : Int)) / 2 = (m : Int)) := ⟨hmm, hm⟩
      have hmn : m < d.size := by omega
      clear hm hmm
      by_cases hr : r < 0
      · go_wp2_with fail
        rw [MM.out.2]
        go_quiet_grown ((go_at_call 10; refine Calls.grown_of (HC.out _)))
        go_wp2_with fail
        go_roundg (hi - ((lo + hi) / 2 + 1))
        case measure => omega
        case rel =>
          have hlt' := R.out.1 hr
          have I2 : Aside ((∀ j, j < (lo + hi) / 2 + 1 → ch d[j]! < ch (t0, t1, t2)) ∧ (∀ j, hi ≤ j → j < d.size → ¬ ch d[j]! < ch (t0, t1, t2))) := ⟨fun j hj => M.out j ((lo + hi) / 2) (by omega) (by omega) (by rw [Y.out]; exact hlt'), I.out.2⟩
          exact ⟨(lo + hi) / 2 + 1, hi, by rw [MM.out.1]; go_num, rfl, by omega, hin, Nat.le_refl _, S1.out.more nq osq, I2⟩
      · go_wp2_with fail
        rw [MM.out.2]
        go_quiet_grown ((go_at_call 10; refine Calls.grown_of (HC.out _)))
        go_wp2_with fail
        go_roundg ((lo + hi) / 2 - lo)
        case measure => omega
        case rel =>
          have hge : ¬ ch y < ch (t0, t1, t2) := fun h => by have := R.out.2 h; omega
          have I2 : Aside ((∀ j, j < lo → ch d[j]! < ch (t0, t1, t2)) ∧ (∀ j, (lo + hi) / 2 ≤ j → j < d.size → ¬ ch d[j]! < ch (t0, t1, t2))) := ⟨I.out.1, fun j hj hj' h => hge (by rw [← Y.out]; exact M.out ((lo + hi) / 2) j hj hj' h)⟩
          exact ⟨lo, (lo + hi) / 2, rfl, by rw [MM.out.1], by omega, by omega, Nat.le_refl _, S1.out.more nq osq, I2⟩
    · obtain rfl : hi = lo := by omega
      have ecnt : cnt = hi := by
        rw [← CN.out]
        refine count_bd _ d.toList hi (by simpa using hin) (fun j hj hj' => ?_) (fun j h3 h4 => ?_)
        · have := I.out.1 j hj
          rw [getElem!_pos d j (by simpa using hj')] at this
          simpa using this
        · have := I.out.2 j h3 (by simpa using h4)
          rw [getElem!_pos d j (by simpa using h4)] at this
          simpa using this
      subst ecnt
      by_cases hn : cnt < d.size
      · have c := three HH1.out (i := cnt) hn
        have l1 := fun n os => ((S1.out.more n os).cell hb1 c.1)
        have l2 := fun n os => ((S1.out.more n os).cell hb1 c.2.1)
        have l3 := fun n os => ((S1.out.more n os).cell hb1 c.2.2)
        clear c
        have hcc := fun W => CC.out d[cnt]! W
        simp only [encL] at hcc
        rw [E.out.1, E.out.2.1, E.out.2.2] at hcc
        generalize cfL d[cnt]! (t0, t1, t2) = r at *
        generalize hy : d[cnt]! = y at *
        clear hy
        have HC : Aside _ := hcc
        clear hcc
        go_wp2_with fail
        go_quiet_grown ((go_at_call 10; refine Calls.grown_of (HC.out _)))
        go_wp2_with fail
        go_ret2
        exact ⟨_, rfl, (G0.out.trans S1.out).more nq osq⟩
      · have hd : decide ((cnt : Int) < (d.size : Int)) = false := decide_eq_false (by omega)
        go_wp2_with fail
        go_quiet (fail)
        go_wp2_with fail
        go_ret2
        exact ⟨_, rfl, (G0.out.trans S1.out).drewN nq⟩

end Go.Proofs.Ybulkdczc
