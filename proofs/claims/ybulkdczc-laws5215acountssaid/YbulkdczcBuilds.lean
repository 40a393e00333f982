/-
  zzs5215abuild BY THE SORT's CONTRACT.
-/
import Derived.Test.YbulkdczcShelf
import Derived.Test.YbulkdczcFrame
namespace Go.Proofs.Ybulkdczc
open Go.Shelf Go.RowKit Go.Lib Go.Sort

theorem ltL (x y : Let) : ltOf cfL x y = decide (ch x < ch y) := by
  unfold ltOf
  exact decide_eq_decide.2 (cfL_lt x y)

theorem swoL : SWO (ltOf cfL) :=
  ⟨fun x => by rw [ltL]; simp, fun x y z h1 h2 => by rw [ltL] at *; simp at *; omega, fun x y z h1 h2 => by rw [ltL] at *; simp at *; omega⟩

theorem encL_one (x : Let) : ∀ v ∈ encL x, v.oneCell' = true := by
  intro v hv
  simp [encL] at hv
  rcases hv with rfl | rfl | rfl <;> rfl

/-- What the sort leaves. -/
def SortLeaves (g : Nat) (d : Array Let) (W w' : World) : Prop :=
  ∃ (d' : Array Let) (n : Nat) (os : Array Obj), PermIn 0 d.size d d' ∧ SortedIn (ltOf cfL) 0 d.size d' ∧ w' = sortWorldK encL 3 W g 0 n d' os

theorem sort_any (g cap : Nat) (d : Array Let) (W : World) (hH : HoldsK encL 3 W g 0 d) (hg : g < W.heap.size) (hsz : d.size ≤ 1024) :
    Calls Yba.prog 9 #[.slice (some ⟨g, 0, none⟩) d.size cap, .func (.func 10) #[] #[]] W fun e w' => e = .returned (.tuple #[]) ∧ SortLeaves g d W w' := by
  have eg : ∀ args w, (callFunc 10 args).run Yba.prog w = .ok (.enter 10 args) w := enters_of Yba.func10 (by kernel_rfl) rfl
  have hcmp : CmpLays Yba.prog 10 #[] encL 3 cfL g 0 d.size W := fun _ _ _ _ x y => channelCompare_any x y _
  exact AnyQ.slices_SortFunc Yba.sortL 3 Yba.isAgg28 Yba.sizeOf28 encL (fun _ => rfl) encL_one cfL swoL 10 #[] g 0 cap d W eg hcmp hH hg (by omega)

theorem leaves {w W w' : World} {d : Array Let} (hB : Below w.heap.size w W) (hH : HoldsK encL 3 W w.heap.size 0 d) (hlt : w.heap.size < W.heap.size) (h : SortLeaves w.heap.size d W w') :
    ∃ d' : Array Let, d'.size = d.size ∧ d'.toList.Perm d.toList ∧ SortedCh d' ∧ HoldsK encL 3 w' w.heap.size 0 d' ∧ Below w.heap.size w w' ∧ w.heap.size < w'.heap.size := by
  obtain ⟨d', n, os, hp, hs, rfl⟩ := h
  have hsz := hp.1
  have hperm : d'.toList.Perm d.toList := by
    have := hp.2.2
    have e1 : d'.extract 0 d.size = d' := by rw [← hsz]; exact Array.extract_size
    have e2 : d.extract 0 d.size = d := Array.extract_size
    rwa [e1, e2] at this
  refine ⟨d', hsz, hperm, ?_, holdsK_sortWorldK_c encL 3 W w.heap.size 0 d d' n os hH hlt hsz, ?_, ?_⟩
  · intro i j hij hj
    by_cases e : i = j
    · subst e; exact Nat.le_refl _
    · have := hs i j (Nat.zero_le _) (by omega) (by omega)
      rw [ltL] at this
      simp at this
      exact this
  · refine hB.trans ?_
    refine ⟨rfl, rfl, rfl, ?_, fun k hk => ?_⟩
    · exact size_sortWorldK_c encL 3 W w.heap.size 0 n d' os
    · show ((putRow id (Sort.ahead W n) w.heap.size 0 (flatK encL 3 d')).heap ++ os)[k]? = _
      rw [Array.getElem?_append_left (by rw [size_putRow]; exact Nat.lt_trans hk hlt)]
      show (W.heap.modify w.heap.size _)[k]? = _
      rw [Array.getElem?_modify, if_neg (by omega)]
  · exact Nat.lt_of_lt_of_le hlt (size_sortWorldK_c encL 3 W w.heap.size 0 n d' os)

theorem builds : Builds := by
  intro a len cap d w hd hlen hrow
  unfold Built
  by_cases hz : len = 0
  · subst hz
    obtain rfl : d = #[] := Array.eq_empty_of_size_eq_zero hd
    refine (build_empty a cap w (SortLeaves w.heap.size #[]) (fun W hB hH hlt => sort_any w.heap.size 0 #[] W hH hlt (by simp))).mono ?_
    rintro e w' ⟨W, hB, hH, hlt, rfl, hR⟩
    obtain ⟨d', h1, h2, h3, h4, h5, h6⟩ := leaves hB hH hlt hR
    exact ⟨d', by rw [h1]; rfl, h1, h2, h3, h4, h5, h6⟩
  · rcases hrow with h | ⟨b, o, rfl, hb, hR⟩
    · exact absurd h hz
    subst hd
    refine (build_any b o cap d w hb hR hlen (SortLeaves w.heap.size d) (fun W hB hH hlt => sort_any w.heap.size d.size d W hH hlt hlen)).mono ?_
    rintro e w' ⟨W, hB, hH, hlt, rfl, hR⟩
    obtain ⟨d', h1, h2, h3, h4, h5, h6⟩ := leaves hB hH hlt hR
    exact ⟨d', by rw [h1], h1, h2, h3, h4, h5, h6⟩

end Go.Proofs.Ybulkdczc
