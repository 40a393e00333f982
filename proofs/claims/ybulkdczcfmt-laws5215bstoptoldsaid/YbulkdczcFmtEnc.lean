/-
  THE PLAIN LAW: what encode writes, at reads. No walk.
-/
import Derived.Test.YbulkdczcFmtAt
import Derived.Lib.Endian
namespace Go.Proofs.YbulkdczcFmt
open Go.RowKit

def half : Nat → Nat | 0 => 128 | 1 => 32768 | 2 => 2147483648 | _ => 9223372036854775808
/-- The number whose last bytes are written. -/
def flip (k : Nat) (v : Int) : Nat := (v % 18446744073709551616).toNat ^^^ half k
def encB (k : Nat) (v : Int) : List UInt8 := (Lib.beBytes 8 (flip k v)).drop (8 - 2 ^ k)
def fits (k : Nat) (v : Int) : Prop := -(half k : Int) ≤ v ∧ v < (half k : Int)
def maxw (vs : List Int) : Nat := vs.foldl (fun k v => max k (lw v)) 0
def encS (vs : List Int) : List UInt8 := if vs = [] then [] else UInt8.ofNat (maxw vs) :: vs.flatMap (encB (maxw vs))

theorem beBytes8 (X : Nat) : Lib.beBytes 8 X = [(X / 72057594037927936 % 256).toUInt8, (X / 281474976710656 % 256).toUInt8, (X / 1099511627776 % 256).toUInt8, (X / 4294967296 % 256).toUInt8, (X / 16777216 % 256).toUInt8, (X / 65536 % 256).toUInt8, (X / 256 % 256).toUInt8, (X % 256).toUInt8] := by
  simp [Lib.beBytes, Lib.leBytes, Nat.div_div_eq_div_mul]

theorem flip_lt (k : Nat) (v : Int) : flip k v < 18446744073709551616 := by
  unfold flip
  have h1 : (v % 18446744073709551616).toNat < 2 ^ 64 := by omega
  have h2 : half k < 2 ^ 64 := by unfold half; split <;> omega
  exact Nat.xor_lt_two_pow h1 h2

theorem flip_mod (k n : Nat) (v : Int) (hk : half k = 2 ^ n) : flip k v % (2 * 2 ^ n) = ((v % 18446744073709551616).toNat + 2 ^ n) % (2 * 2 ^ n) := by
  unfold flip
  rw [hk]
  have e : (2 * 2 ^ n : Nat) = 2 ^ (n + 1) := by rw [Nat.pow_succ]; omega
  rw [e, Nat.xor_mod_two_pow]
  have e2 : (2 : Nat) ^ n % 2 ^ (n + 1) = 2 ^ n := Nat.mod_eq_of_lt (Nat.pow_lt_pow_right (by omega) (by omega))
  rw [e2, xor_top n _ (by rw [e]; exact Nat.mod_lt _ (Nat.two_pow_pos _)), e, Nat.mod_add_mod]

theorem lw_le (v : Int) : lw v ≤ 3 := by unfold lw; split; omega; split; omega; split <;> omega
theorem maxw_from (vs : List Int) (k : Nat) : k ≤ vs.foldl (fun k v => max k (lw v)) k ∧ ∀ v ∈ vs, lw v ≤ vs.foldl (fun k v => max k (lw v)) k := by
  induction vs generalizing k with
  | nil => exact ⟨Nat.le_refl _, fun v hv => by cases hv⟩
  | cons x r ih =>
    obtain ⟨h1, h2⟩ := ih (max k (lw x))
    refine ⟨Nat.le_trans (Nat.le_max_left _ _) h1, fun v hv => ?_⟩
    rcases List.mem_cons.1 hv with rfl | hv
    · exact Nat.le_trans (Nat.le_max_right _ _) h1
    · exact h2 v hv
theorem maxw_le (vs : List Int) (k : Nat) (hk : k ≤ 3) : vs.foldl (fun k v => max k (lw v)) k ≤ 3 := by
  induction vs generalizing k with
  | nil => exact hk
  | cons x r ih => exact ih _ (Nat.max_le.2 ⟨hk, lw_le x⟩)
theorem lw_maxw (vs : List Int) (v : Int) (hv : v ∈ vs) : lw v ≤ maxw vs := (maxw_from vs 0).2 v hv
theorem maxw3 (vs : List Int) : maxw vs ≤ 3 := maxw_le vs 0 (by omega)

theorem fits_of (k : Nat) (v : Int) (h64 : -9223372036854775808 ≤ v ∧ v < 9223372036854775808) (h : lw v ≤ k) (hk : k ≤ 3) : fits k v := by
  unfold fits half
  unfold lw at h
  match k, hk with
  | 0, _ => simp only; split at h; omega; split at h; omega; split at h <;> omega
  | 1, _ => simp only; split at h; omega; split at h; omega; split at h <;> omega
  | 2, _ => simp only; split at h; omega; split at h; omega; split at h <;> omega
  | 3, _ => simp only; omega

theorem encB_length (k : Nat) (v : Int) (hk : k ≤ 3) : (encB k v).length = 2 ^ k := by
  unfold encB
  rw [List.length_drop, Lib.beBytes_length]
  match k, hk with
  | 0, _ => rfl
  | 1, _ => rfl
  | 2, _ => rfl
  | 3, _ => rfl

theorem u8mod (x : Nat) : ((x % 256).toUInt8).toNat = x % 256 := Lib.toUInt8_mod x

theorem enc0 (v : Int) (h : fits 0 v) : encB 0 v = [(flip 0 v % 256).toUInt8] ∧ ((flip 0 v % 256 : Nat) : Int) - 128 = v := by
  refine ⟨by unfold encB; rw [beBytes8]; rfl, ?_⟩
  have := flip_mod 0 7 v rfl
  have h' : -(128 : Int) ≤ v ∧ v < 128 := h
  omega
theorem enc1 (v : Int) (h : fits 1 v) : encB 1 v = [(flip 1 v / 256 % 256).toUInt8, (flip 1 v % 256).toUInt8] ∧ ((flip 1 v / 256 % 256 : Nat) : Int) * 256 + ((flip 1 v % 256 : Nat) : Int) - 32768 = v := by
  refine ⟨by unfold encB; rw [beBytes8]; rfl, ?_⟩
  have := flip_mod 1 15 v rfl
  have h' : -(32768 : Int) ≤ v ∧ v < 32768 := h
  omega
theorem enc2 (v : Int) (h : fits 2 v) : encB 2 v = [(flip 2 v / 16777216 % 256).toUInt8, (flip 2 v / 65536 % 256).toUInt8, (flip 2 v / 256 % 256).toUInt8, (flip 2 v % 256).toUInt8] ∧
    ((flip 2 v / 16777216 % 256 : Nat) : Int) * 16777216 + ((flip 2 v / 65536 % 256 : Nat) : Int) * 65536 + ((flip 2 v / 256 % 256 : Nat) : Int) * 256 + ((flip 2 v % 256 : Nat) : Int) - 2147483648 = v := by
  refine ⟨by unfold encB; rw [beBytes8]; rfl, ?_⟩
  have := flip_mod 2 31 v rfl
  have h' : -(2147483648 : Int) ≤ v ∧ v < 2147483648 := h
  omega
theorem enc3 (v : Int) (h : fits 3 v) : encB 3 v = [(flip 3 v / 72057594037927936 % 256).toUInt8, (flip 3 v / 281474976710656 % 256).toUInt8, (flip 3 v / 1099511627776 % 256).toUInt8, (flip 3 v / 4294967296 % 256).toUInt8, (flip 3 v / 16777216 % 256).toUInt8, (flip 3 v / 65536 % 256).toUInt8, (flip 3 v / 256 % 256).toUInt8, (flip 3 v % 256).toUInt8] ∧
    ((flip 3 v / 72057594037927936 % 256 : Nat) : Int) * 72057594037927936 + ((flip 3 v / 281474976710656 % 256 : Nat) : Int) * 281474976710656 + ((flip 3 v / 1099511627776 % 256 : Nat) : Int) * 1099511627776 + ((flip 3 v / 4294967296 % 256 : Nat) : Int) * 4294967296 + ((flip 3 v / 16777216 % 256 : Nat) : Int) * 16777216 + ((flip 3 v / 65536 % 256 : Nat) : Int) * 65536 + ((flip 3 v / 256 % 256 : Nat) : Int) * 256 + ((flip 3 v % 256 : Nat) : Int) - 9223372036854775808 = v := by
  refine ⟨by unfold encB; rw [beBytes8]; rfl, ?_⟩
  have := flip_mod 3 63 v rfl
  have h2 := flip_lt 3 v
  have h' : -(9223372036854775808 : Int) ≤ v ∧ v < 9223372036854775808 := h
  omega

theorem flat_get {α : Type} (f : Int → List α) (W : Nat) (hW : ∀ v, (f v).length = W) : ∀ (l : List Int) (i j : Nat) (hi : i < l.length), j < W → (l.flatMap f)[i * W + j]? = (f l[i])[j]?
  | [], i, j, hi, _ => by simp at hi
  | x :: r, 0, j, _, hj => by
    rw [List.flatMap_cons, Nat.zero_mul, Nat.zero_add, List.getElem?_append_left (by rw [hW]; exact hj)]; rfl
  | x :: r, i + 1, j, hi, hj => by
    rw [List.flatMap_cons, List.getElem?_append_right (by rw [hW, Nat.add_mul]; omega), hW]
    have e : (i + 1) * W + j - W = i * W + j := by rw [Nat.add_mul]; omega
    rw [e, flat_get f W hW r i j (by simpa using hi) hj]; rfl
theorem flat_len {α : Type} (f : Int → List α) (W : Nat) (hW : ∀ v, (f v).length = W) (l : List Int) : (l.flatMap f).length = l.length * W := by
  induction l with
  | nil => simp
  | cons x r ih => rw [List.flatMap_cons, List.length_append, hW, ih, List.length_cons, Nat.add_mul]; omega

/-- The string that encode hands back. -/
def strS (vs : List Int) : ByteArray := ⟨(encS vs).toArray⟩

theorem strS_size (vs : List Int) (h : vs ≠ []) : (strS vs).size = 1 + vs.length * 2 ^ maxw vs := by
  show (encS vs).toArray.size = _
  rw [List.size_toArray, encS, if_neg h, List.length_cons, flat_len (encB (maxw vs)) (2 ^ maxw vs) (fun v => encB_length _ v (maxw3 vs))]; omega

theorem strS_get? (vs : List Int) (j : Nat) (h : j < (strS vs).size) : (encS vs)[j]? = some (strS vs)[j] := by
  have h' : j < (encS vs).toArray.size := h
  have h2 : j < (encS vs).length := by rwa [List.size_toArray] at h'
  rw [List.getElem?_eq_getElem h2]
  rfl

theorem strS_head (vs : List Int) (h : vs ≠ []) (h0 : 0 < (strS vs).size) : (strS vs)[0] = UInt8.ofNat (maxw vs) := by
  have := strS_get? vs 0 h0
  rw [encS, if_neg h] at this
  simpa using this.symm

theorem strS_at (vs : List Int) (h : vs ≠ []) (i j : Nat) (hi : i < vs.length) (hj : j < 2 ^ maxw vs) (q : Nat) (hq : q = 1 + (i * 2 ^ maxw vs + j)) (hlt : q < (strS vs).size) : (encB (maxw vs) vs[i])[j]? = some (strS vs)[q] := by
  have e := strS_get? vs q hlt
  have e2 : (encS vs)[q]? = (encB (maxw vs) vs[i])[j]? := by
    rw [encS, if_neg h, hq, Nat.add_comm, List.getElem?_cons_succ, flat_get (encB (maxw vs)) (2 ^ maxw vs) (fun v => encB_length _ v (maxw3 vs)) vs i j hi hj]
  rw [← e2]; exact e

end Go.Proofs.YbulkdczcFmt
