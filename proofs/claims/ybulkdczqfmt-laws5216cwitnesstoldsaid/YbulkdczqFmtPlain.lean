/-
  THE PLAIN LAW: masks, 'some listed quorum lies within', the greedy. No Go program in sight.
-/
import Derived.WalkKit
import Derived.Laws.BitsAllLaws
namespace Go.Proofs.YbulkdczqFmt
open Go.RowKit

/-- 'a &^ b' at 64 bits. -/
def sub (a b : Nat) : Nat := a &&& (18446744073709551615 - b)
/-- Some listed quorum lies within q. -/
def hq (l : List Nat) (q : Nat) : Bool := l.any (fun m => sub m q == 0)
/-- Drop from bit k - 1 down. -/
def greedy (H : Nat → Bool) : Nat → Nat → Nat
  | 0, q => q
  | k + 1, q => greedy H k (if q &&& 2 ^ k = 0 then q else if H (sub q (2 ^ k)) = true then sub q (2 ^ k) else q)

theorem sub_le (a b : Nat) : sub a b ≤ a := Nat.and_le_left
theorem sub_bit (a b i : Nat) (ha : a < 2 ^ 64) (hb : b < 2 ^ 64) : (sub a b).testBit i = (a.testBit i && !b.testBit i) := by
  unfold sub
  rw [Nat.testBit_and]
  by_cases hi : i < 64
  · congr 1
    have : 18446744073709551615 - b = 2 ^ 64 - (b + 1) := by omega
    rw [this, Nat.testBit_two_pow_sub_succ hb]
    simp [hi]
  · have : a.testBit i = false := Nat.testBit_lt_two_pow (Nat.lt_of_lt_of_le ha (Nat.pow_le_pow_right (by omega) (by omega)))
    simp [this]
theorem sub_zero_iff (a b : Nat) (ha : a < 2 ^ 64) (hb : b < 2 ^ 64) : sub a b = 0 ↔ ∀ i, a.testBit i = true → b.testBit i = true := by
  constructor
  · intro h i hi
    have := sub_bit a b i ha hb
    rw [h] at this
    simp [hi] at this
    exact this
  · intro h
    apply Nat.eq_of_testBit_eq
    intro i
    rw [sub_bit a b i ha hb]
    cases ha' : a.testBit i with
    | false => simp
    | true => simp [h i ha']
theorem and_zero_iff (a b : Nat) : a &&& b = 0 ↔ ∀ i, a.testBit i = true → b.testBit i = false := by
  constructor
  · intro h i hi
    have : (a &&& b).testBit i = (a.testBit i && b.testBit i) := Nat.testBit_and ..
    rw [h] at this
    simp [hi] at this
    exact this
  · intro h
    apply Nat.eq_of_testBit_eq
    intro i
    rw [Nat.testBit_and]
    cases ha' : a.testBit i with
    | false => simp
    | true => simp [h i ha']
theorem and_pow_zero (q k : Nat) : q &&& 2 ^ k = 0 ↔ q.testBit k = false := by
  rw [Nat.and_comm, and_zero_iff]
  constructor
  · intro h; exact h k (by rw [Nat.testBit_two_pow]; simp)
  · intro h i hi
    rw [Nat.testBit_two_pow] at hi
    simp at hi
    subst hi
    exact h
theorem hq_mono {l : List Nat} {q q' : Nat} (hl : ∀ m ∈ l, m < 2 ^ 64) (hq1 : q < 2 ^ 64) (hq2 : q' < 2 ^ 64) (h : ∀ i, q.testBit i = true → q'.testBit i = true) (hh : hq l q = true) : hq l q' = true := by
  unfold hq at *
  rw [List.any_eq_true] at *
  obtain ⟨m, hm, he⟩ := hh
  refine ⟨m, hm, ?_⟩
  have he' : sub m q = 0 := by simpa using he
  have := (sub_zero_iff m q' (hl m hm) hq2).2 (fun i hi => h i ((sub_zero_iff m q (hl m hm) hq1).1 he' i hi))
  simpa using this

theorem greedy_le (H : Nat → Bool) (k q : Nat) : greedy H k q ≤ q := by
  induction k generalizing q with
  | zero => exact Nat.le_refl _
  | succ k ih =>
    refine Nat.le_trans (ih _) ?_
    split
    · exact Nat.le_refl _
    · split
      · exact sub_le _ _
      · exact Nat.le_refl _
theorem pow_lt64 (k : Nat) (h : k < 64) : (2 : Nat) ^ k < 2 ^ 64 := Nat.pow_lt_pow_right (by omega) h
theorem greedy_bits (H : Nat → Bool) (k q : Nat) (hk : k ≤ 64) (hq64 : q < 2 ^ 64) (i : Nat) (hi : (greedy H k q).testBit i = true) : q.testBit i = true := by
  induction k generalizing q with
  | zero => exact hi
  | succ k ih =>
    have hp := pow_lt64 k (by omega)
    unfold greedy at hi
    split at hi
    · exact ih q (by omega) hq64 hi
    · split at hi
      · have := ih _ (by omega) (Nat.lt_of_le_of_lt (sub_le _ _) hq64) hi
        rw [sub_bit _ _ _ hq64 hp] at this
        simp at this
        exact this.1
      · exact ih q (by omega) hq64 hi
theorem greedy_holds (H : Nat → Bool) (k q : Nat) (h : H q = true) : H (greedy H k q) = true := by
  induction k generalizing q with
  | zero => exact h
  | succ k ih =>
    unfold greedy
    split
    · exact ih q h
    · split
      · next h2 => exact ih _ h2
      · exact ih q h
theorem greedy_min (H : Nat → Bool) (mono : ∀ q q', q < 2 ^ 64 → q' < 2 ^ 64 → (∀ i, q.testBit i = true → q'.testBit i = true) → H q = true → H q' = true) (k q : Nat) (hk : k ≤ 64) (hq64 : q < 2 ^ 64) (j : Nat) (hj : j < k)
    (hb : (greedy H k q).testBit j = true) : H (sub (greedy H k q) (2 ^ j)) = false := by
  induction k generalizing q with
  | zero => omega
  | succ k ih =>
    have hp := pow_lt64 k (by omega)
    unfold greedy at hb ⊢
    have hlt : (if q &&& 2 ^ k = 0 then q else if H (sub q (2 ^ k)) = true then sub q (2 ^ k) else q) < 2 ^ 64 := by
      split
      · exact hq64
      · split
        · exact Nat.lt_of_le_of_lt (sub_le _ _) hq64
        · exact hq64
    by_cases hjk : j < k
    · exact ih _ (by omega) hlt hjk hb
    · obtain rfl : j = k := by omega
      have h1 := greedy_bits H j _ (by omega) hlt j hb
      have hgl := Nat.lt_of_le_of_lt (greedy_le H j (if q &&& 2 ^ j = 0 then q else if H (sub q (2 ^ j)) = true then sub q (2 ^ j) else q)) hlt
      have hgb := fun i => greedy_bits H j (if q &&& 2 ^ j = 0 then q else if H (sub q (2 ^ j)) = true then sub q (2 ^ j) else q) (by omega) hlt i
      have hpj := pow_lt64 j (by omega)
      by_cases h0 : q &&& 2 ^ j = 0
      · rw [if_pos h0] at h1
        rw [(and_pow_zero q j).1 h0] at h1
        cases h1
      · rw [if_neg h0] at h1 hgl hgb ⊢
        by_cases hH : H (sub q (2 ^ j)) = true
        · rw [if_pos hH] at h1
          rw [sub_bit _ _ _ hq64 hp, Nat.testBit_two_pow] at h1
          simp at h1
        · rw [if_neg hH] at hgl hgb ⊢
          cases hx : H (sub (greedy H j q) (2 ^ j)) with
          | false => rfl
          | true =>
            exfalso
            apply hH
            refine mono _ _ (Nat.lt_of_le_of_lt (sub_le _ _) hgl) (Nat.lt_of_le_of_lt (sub_le _ _) hq64) ?_ hx
            intro i hi
            rw [sub_bit _ _ _ hgl hpj] at hi
            rw [sub_bit _ _ _ hq64 hpj]
            simp at hi ⊢
            exact ⟨hgb i hi.1, hi.2⟩
/-- Taking a bit out and laying it back. -/
theorem sub_or (q k : Nat) (hq64 : q < 2 ^ 64) (hk : k < 64) (h : q.testBit k = true) : sub q (2 ^ k) ||| 2 ^ k = q := by
  apply Nat.eq_of_testBit_eq
  intro i
  rw [Nat.testBit_or, sub_bit _ _ _ hq64 (pow_lt64 k hk), Nat.testBit_two_pow]
  by_cases e : k = i
  · subst e; simp [h]
  · simp [e]
/-- What is left of full is apart from a. -/
theorem sub_apart (full a q : Nat) (hf : full < 2 ^ 64) (ha : a < 2 ^ 64) (hqq : ∀ i, q.testBit i = true → (sub full a).testBit i = true) : q &&& a = 0 := by
  rw [and_zero_iff]
  intro i hi
  have := hqq i hi
  rw [sub_bit _ _ _ hf ha] at this
  simp at this
  exact this.2
theorem sub_within (full a q : Nat) (hf : full < 2 ^ 64) (ha : a < 2 ^ 64) (hq64 : q < 2 ^ 64) (hqq : ∀ i, q.testBit i = true → (sub full a).testBit i = true) : sub q full = 0 := by
  rw [sub_zero_iff _ _ hq64 hf]
  intro i hi
  have := hqq i hi
  rw [sub_bit _ _ _ hf ha] at this
  simp at this
  exact this.1
end Go.Proofs.YbulkdczqFmt
