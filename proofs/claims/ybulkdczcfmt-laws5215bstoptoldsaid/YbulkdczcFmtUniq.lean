/-
  THE PLAIN LAW: sorted and compacted: strictly ascending, the same members.
-/
import Derived.Lib.SlicesCompact
namespace Go.Proofs.YbulkdczcFmt

theorem comp_mem (d : Array Int) (x : Int) : ∀ m, x ∈ Lib.compactUpTo d m ↔ ∃ j, j < m ∧ d[j]! = x
  | 0 => by simp [Lib.compactUpTo]
  | m + 1 => by
    rw [Lib.compactUpTo_succ, List.mem_append, comp_mem d x m]
    cases hk : Lib.keeps d m with
    | true =>
      simp only [if_true, List.mem_singleton]
      constructor
      · rintro (⟨j, hj, h⟩ | h)
        · exact ⟨j, by omega, h⟩
        · exact ⟨m, by omega, h.symm⟩
      · rintro ⟨j, hj, h⟩
        by_cases e : j = m
        · subst e; exact Or.inr h.symm
        · exact Or.inl ⟨j, by omega, h⟩
    | false =>
      have hk' : ¬ (m = 0 ∨ d[m]! ≠ d[m - 1]!) := by
        have := hk; unfold Lib.keeps at this; exact of_decide_eq_false this
      have h0 : m ≠ 0 := fun h => hk' (Or.inl h)
      have h1 : d[m]! = d[m - 1]! := Classical.byContradiction fun h => hk' (Or.inr h)
      simp only [Bool.false_eq_true, if_false, List.not_mem_nil, or_false]
      constructor
      · rintro ⟨j, hj, h⟩; exact ⟨j, by omega, h⟩
      · rintro ⟨j, hj, h⟩
        by_cases e : j = m
        · subst e; exact ⟨j - 1, by omega, by rw [← h1]; exact h⟩
        · exact ⟨j, by omega, h⟩

theorem comp_pair (d : Array Int) (hs : ∀ i j, i ≤ j → j < d.size → d[i]! ≤ d[j]!) : ∀ m, m ≤ d.size → (Lib.compactUpTo d m).Pairwise (· < ·)
  | 0, _ => by simp [Lib.compactUpTo]
  | m + 1, hm => by
    rw [Lib.compactUpTo_succ]
    have ih := comp_pair d hs m (by omega)
    cases hk : Lib.keeps d m with
    | false => simpa using ih
    | true =>
      simp only [if_true]
      rw [List.pairwise_append]
      refine ⟨ih, by simp, fun a ha b hb => ?_⟩
      obtain ⟨j, hj, rfl⟩ := (comp_mem d a m).1 ha
      rw [List.mem_singleton] at hb
      subst hb
      have hk' : m = 0 ∨ d[m]! ≠ d[m - 1]! := by
        have := hk; unfold Lib.keeps at this; exact of_decide_eq_true this
      have h0 : d[m]! ≠ d[m - 1]! := by
        rcases hk' with h | h
        · omega
        · exact h
      have h1 := hs j (m - 1) (by omega) (by omega)
      have h2 := hs (m - 1) m (by omega) (by omega)
      omega

theorem comp_len (d : Array Int) (m : Nat) : (Lib.compactUpTo d m).length ≤ m := by
  unfold Lib.compactUpTo
  rw [List.length_map]
  refine Nat.le_trans (List.length_filter_le _ _) ?_
  simp

def sortL (zs : List Int) : List Int := zs.mergeSort fun x y => decide (x ≤ y)
def uniq (zs : List Int) : List Int := Lib.compactUpTo (sortL zs).toArray (sortL zs).toArray.size

theorem sortL_perm (zs : List Int) : (sortL zs).Perm zs := List.mergeSort_perm _ _
theorem sortL_len (zs : List Int) : (sortL zs).length = zs.length := (sortL_perm zs).length_eq
theorem sortL_sorted (zs : List Int) : ∀ i j, i ≤ j → j < (sortL zs).toArray.size → (sortL zs).toArray[i]! ≤ (sortL zs).toArray[j]! := by
  intro i j hij hj
  have hp : (sortL zs).Pairwise (fun x y => decide (x ≤ y) = true) := List.pairwise_mergeSort (fun a b c h1 h2 => by simp at *; omega) (fun a b => by simp; omega) zs
  have hj' : j < (sortL zs).length := by simpa using hj
  rw [getElem!_pos (sortL zs).toArray i (by simp; omega), getElem!_pos (sortL zs).toArray j hj]
  simp only [List.getElem_toArray]
  by_cases e : i = j
  · subst e; exact Int.le_refl _
  · have := List.pairwise_iff_getElem.1 hp i j (by omega) hj' (by omega)
    simpa using this

theorem uniq_pair (zs : List Int) : (uniq zs).Pairwise (· < ·) := comp_pair _ (sortL_sorted zs) _ (Nat.le_refl _)
theorem uniq_mem (zs : List Int) (x : Int) : x ∈ uniq zs ↔ x ∈ zs := by
  unfold uniq
  rw [comp_mem, ← (sortL_perm zs).mem_iff]
  constructor
  · rintro ⟨j, hj, h⟩
    rw [getElem!_pos _ j hj] at h
    rw [← h]; simp
  · intro h
    obtain ⟨j, hj, e⟩ := List.getElem_of_mem h
    refine ⟨j, by simpa using hj, ?_⟩
    rw [getElem!_pos _ j (by simpa using hj)]; simpa using e
theorem uniq_len (zs : List Int) : (uniq zs).length ≤ zs.length := by
  unfold uniq
  refine Nat.le_trans (comp_len _ _) ?_
  simp [sortL_len]
theorem uniq_ne (zs : List Int) (h : zs ≠ []) : uniq zs ≠ [] := by
  intro e
  cases zs with
  | nil => exact h rfl
  | cons x r =>
    have := (uniq_mem (x :: r) x).2 (by simp)
    rw [e] at this; cases this

end Go.Proofs.YbulkdczcFmt
