/-
  slices.Clone and slices.Equal at letters, by their contracts.
-/
import Derived.Test.YbulkdczcBuilds
import Derived.Laws.StructEq
namespace Go.Proofs.Ybulkdczc
open Go.Shelf Go.RowKit Go.Lib Go.Sort

def eqL (x y : Let) : Bool := (((x.1.toNat : Int) == (y.1.toNat : Int)) && ((x.2.1.toNat : Int) == (y.2.1.toNat : Int))) && ((x.2.2.toNat : Int) == (y.2.2.toNat : Int))

theorem eqL_self (x : Let) : eqL x x = true := by simp [eqL]

theorem neqL : NeqAt Yba.prog 28 (fun x : Let => .agg (encL x).toArray) eqL := by
  refine ⟨fun x y w => ?_, GuardAt.agg _ (by kernel_rfl)⟩
  have u26 := Yba.underlying26
  have a26 := Yba.isAgg26
  have z26 := Yba.sizeOf26
  have hS : Yba.prog.underlying 28 = some (.struct (Yba.prog.fieldsOf 28)) := by kernel_rfl
  have hp : Yba.prog.stoodInHeld 28 = false := by kernel_rfl
  simp only [encL, eqL]
  generalize x.1.toNat = x0
  generalize x.2.1.toNat = x1
  generalize x.2.2.toNat = x2
  generalize y.1.toNat = y0
  generalize y.2.1.toNat = y1
  generalize y.2.2.toNat = y2
  rw [run_neq_struct, show (10000 : Nat) = 9999 + 1 from rfl, run_equalIn_agg w 9999 28 _ _ hS hp]
  simp only [Program.fieldsOf, Yba.underlying28]
  go_simp
  by_cases h0 : (x0 : Int) = y0 <;> by_cases h1 : (x1 : Int) = y1 <;> by_cases h2 : (x2 : Int) = y2 <;> simp [h0, h1, h2]

theorem allEq_self (l : List Let) : Lib.allEq eqL l l = true := by
  induction l with
  | nil => rfl
  | cons x r ih => simp [Lib.allEq, eqL_self, ih]

theorem three_at {w : World} {g : Nat} {d : Array Let} (h : HoldsK encL 3 w g 0 d) : ∀ j, j < d.toList.length → ∀ i v, (encL d.toList[j]!)[i]? = some v → w.cell? ⟨g, 0 + j * 3 + i, none⟩ = some v := by
  intro j hj i v hv
  have hj' : j < d.size := by simpa using hj
  have e : d.toList[j]! = d[j]! := by
    rw [getElem!_pos d _ hj', getElem!_pos d.toList _ hj]; simp
  rw [e] at hv
  have t := three h hj'
  match i, hv with
  | 0, hv => simp only [encL, List.getElem?_cons_zero] at hv; exact t.1.trans hv
  | 1, hv => simp only [encL, List.getElem?_cons_zero, List.getElem?_cons_succ] at hv; exact t.2.1.trans hv
  | 2, hv => simp only [encL, List.getElem?_cons_zero, List.getElem?_cons_succ] at hv; exact t.2.2.trans hv
  | i + 3, hv => simp [encL] at hv

theorem equals : Equals := by
  intro g g2 c c2 d w hH hH2 hsz
  have h := AnyQ.slices_Equal Yba.equalL 3 Yba.isAgg28 Yba.sizeOf28 encL (fun _ => rfl) eqL neqL g 0 d.size c g2 0 d.size c2 d.toList d.toList w (by simp) (by simp) (by omega) (by omega) (three_at hH) (three_at hH2)
  change Calls Yba.prog 8 _ _ _ at h
  refine h.mono ?_
  rintro e w' ⟨rfl, q, rfl⟩
  refine ⟨?_, ⟨q, #[], by rw [grow_empty]⟩⟩
  rw [allEq_self]

theorem clones : Clones := by
  intro g cap d w hH hsz
  obtain ⟨i, hi, hz0, hz1, hz2⟩ := info28_ex
  have h := AnyE.slices_Clone Yba.cloneL i _ 3 12 hi hz0 hz1 hz2 rfl (by omega) Yba.sizeOf28 g 0 d.size cap (flatL d.toList) w (by rw [flatL_length]; simp) (by unfold maxLen; omega) (by omega)
    (fun j u hj => by
      have hlt : j < d.size * 3 := by
        have := (List.getElem?_eq_some_iff.1 hj).1
        rw [flatL_length] at this; simpa using this
      have hc := (hH j (by rw [size_flatK]; exact hlt)).1
      rw [get_flatK _ _ _ _ hlt] at hc
      have hg := flatL_get d.toList j (by simpa using hlt)
      rw [hj] at hg
      have e : d.toList[j / 3]! = d[j / 3]! := by
        have : j / 3 < d.size := by omega
        rw [getElem!_pos d _ this, getElem!_pos d.toList _ (by simpa using this)]; simp
      rw [e] at hg
      rw [hc]; exact hg.symm)
    (fun u hu => by
      obtain ⟨x, _, hx⟩ := List.mem_flatMap.1 hu
      exact encL_one x u hx)
  change Calls Yba.prog 6 _ _ _ at h
  refine h.mono ?_
  rintro e w' ⟨v', rfl, hown, hnn, hbel⟩
  rcases hown.2 with ⟨h0, _⟩ | ⟨g2, c2, cur, rfl, hb, hblk, _⟩
  · exact absurd h0 hnn
  · exact ⟨g2, c2, rfl, hb, (hown.lt g2 rfl).2, holdsK_of_owns rfl hown, hbel⟩

/-- THE STATEMENT. -/
theorem counts_proved : Rows.LawS5215ACountsSaid := counts_over builds clones equals
end Go.Proofs.Ybulkdczc
