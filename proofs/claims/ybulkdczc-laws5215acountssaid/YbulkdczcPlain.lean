/-
  THE PLAIN LAWS: sorted letters, counted. No Go in sight.
-/
import Derived.Test.YbulkdczcTo
namespace Go.Proofs.Ybulkdczc
open Go.RowKit Go.Sort

theorem lt_count {α : Type} (p : α → Bool) : ∀ (l : List α), (∀ a b (hab : a ≤ b) (hb : b < l.length), p l[b] = true → p (l[a]'(by omega)) = true) → ∀ i (hi : i < l.length), (i < l.countP p ↔ p l[i] = true)
  | [], _, i, hi => by simp at hi
  | x :: r, hm, i, hi => by
    cases hx : p x with
    | true =>
      rw [List.countP_cons_of_pos hx]
      match i, hi with
      | 0, _ => simp [hx]
      | i + 1, hi =>
        have := lt_count p r (fun a b hab hb h => by
          have := hm (a + 1) (b + 1) (by omega) (by simpa using hb) (by simpa using h)
          simpa using this) i (by simpa using hi)
        simp only [List.getElem_cons_succ]
        rw [← this]; omega
    | false =>
      have h0 : (x :: r).countP p = 0 := by
        rw [List.countP_eq_zero]
        intro y hy
        obtain ⟨j, hj, rfl⟩ := List.getElem_of_mem hy
        intro hp
        have := hm 0 j (Nat.zero_le _) hj hp
        simp [hx] at this
      rw [h0]
      constructor
      · intro h; omega
      · intro h
        have := hm 0 i (Nat.zero_le _) hi h
        simp [hx] at this

theorem ch_lt (x : Let) (u : UInt32) : ch x < ch (u, 0, 0) ↔ x.1.toNat < u.toNat := by
  have h := x.2.1.toNat_lt
  have e : (0 : UInt32).toNat = 0 := rfl
  simp only [ch, chan, e]
  omega

def SortedCh (d : Array Let) : Prop := ∀ i j, i ≤ j → j < d.size → ch d[i]! ≤ ch d[j]!

theorem lt_cnt (d : Array Let) (hs : SortedCh d) (u : UInt32) (i : Nat) (hi : i < d.size) : i < cntLt d u ↔ d[i]!.1.toNat < u.toNat := by
  unfold cntLt
  have := lt_count (fun x : Let => decide (ch x < ch (u, 0, 0))) d.toList (fun a b hab hb h => by
    have hb' : b < d.size := by simpa using hb
    have h2 := hs a b hab hb'
    rw [getElem!_pos d a (by omega), getElem!_pos d b hb'] at h2
    simp only [Array.getElem_toList, decide_eq_true_eq] at h ⊢
    omega) i (by simpa using hi)
  rw [this]
  simp only [Array.getElem_toList, decide_eq_true_eq]
  rw [ch_lt, getElem!_pos d i hi]

theorem cnt_le (d : Array Let) (u : UInt32) : cntLt d u ≤ d.size := by
  unfold cntLt
  have := List.countP_le_length (p := fun x : Let => decide (ch x < ch (u, 0, 0))) (l := d.toList)
  simpa using this

theorem succ_nat (u : UInt32) (h : u.toNat ≠ 4294967295) : (u + 1).toNat = u.toNat + 1 := by
  have := u.toNat_lt
  rw [UInt32.toNat_add]
  have e : (1 : UInt32).toNat = 1 := rfl
  rw [e]; omega

/-- The range holds exactly the letters to r. -/
theorem exact_in (d : Array Let) (hs : SortedCh d) (r : UInt32) (hr : r.toNat ≠ 4294967295) (i : Nat) (hi : i < d.size) : (cntLt d r ≤ i ∧ i < cntLt d (r + 1)) ↔ d[i]!.1.toNat = r.toNat := by
  have h1 := lt_cnt d hs r i hi
  have h2 := lt_cnt d hs (r + 1) i hi
  rw [succ_nat r hr] at h2
  omega

theorem exact_ne (d : Array Let) (hs : SortedCh d) (r : UInt32) (hr : r.toNat ≠ 4294967295) (i : Nat) (hi : i < d.size) (he : d[i]!.1.toNat = r.toNat) : cntLt d r < cntLt d (r + 1) := by
  have := (exact_in d hs r hr i hi).2 he
  omega

/-! ### Counts -/
theorem cnt_lo (d : Array Let) (u : UInt32) : cntLt d u = d.toList.countP (fun x => decide (x.1.toNat < u.toNat)) := by
  unfold cntLt
  apply List.countP_congr
  intro x _
  simp only [decide_eq_true_eq]
  exact ch_lt x u
theorem cnt_hi (d : Array Let) (u : UInt32) (h : u.toNat ≠ 4294967295) : cntLt d (u + 1) = d.toList.countP (fun x => decide (x.1.toNat ≤ u.toNat)) := by
  rw [cnt_lo]
  apply List.countP_congr
  intro x _
  simp only [decide_eq_true_eq, succ_nat u h]
  omega
theorem cnt_wrap (d : Array Let) (u : UInt32) (h : u.toNat = 4294967295) : cntLt d (u + 1) = 0 := by
  rw [cnt_lo, List.countP_eq_zero]
  intro x _
  have e : (1 : UInt32).toNat = 1 := rfl
  have : (u + 1).toNat = 0 := by rw [UInt32.toNat_add, e, h]
  simp [this]

end Go.Proofs.Ybulkdczc
