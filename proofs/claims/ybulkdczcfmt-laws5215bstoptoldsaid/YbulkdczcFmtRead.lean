/-
  at AND len OVER WHAT encode HANDS BACK.
-/
import Derived.Test.YbulkdczcFmtEnc
namespace Go.Proofs.YbulkdczcFmt
open Go.RowKit

def in64 (v : Int) : Prop := -9223372036854775808 ≤ v ∧ v < 9223372036854775808

theorem byte_of {vs : List Int} {q x : Nat} {hq : q < (strS vs).size} (h : some ((x % 256).toUInt8) = some (strS vs)[q]) : (strS vs)[q].toNat = x % 256 := by
  rw [← Option.some.inj h, u8mod]

theorem size_le (vs : List Int) (h : vs ≠ []) (hlen : vs.length ≤ 1024) : (strS vs).size ≤ 8193 := by
  rw [strS_size vs h]
  have h3 := maxw3 vs
  have : 2 ^ maxw vs ≤ 2 ^ 3 := Nat.pow_le_pow_right (by omega) h3
  have := Nat.mul_le_mul hlen this
  omega

theorem at_enc0 (vs : List Int) (h : vs ≠ []) (hk : maxw vs = 0) (i : Nat) (hi : i < vs.length) (hlen : vs.length ≤ 1024) (h64 : ∀ v ∈ vs, in64 v) (w : World) :
    Calls Ybaf.prog 17 #[.string (strS vs), .int .i64 i] w fun e w' => e = .returned (.int .i64 vs[i]) ∧ ∃ n, w' = w.drewN n := by
  have hs := size_le vs h hlen
  have hsz := strS_size vs h
  rw [hk] at hsz
  have h0 : 0 < (strS vs).size := by omega
  have hh := strS_head vs h h0
  rw [hk] at hh
  have hf : fits 0 vs[i] := fits_of 0 _ (h64 _ (List.getElem_mem hi)) (by rw [← hk]; exact lw_maxw vs _ (List.getElem_mem hi)) (by omega)
  obtain ⟨e1, e2⟩ := enc0 vs[i] hf
  have hat := fun j hj q hq hlt => strS_at vs h i j hi hj q hq hlt
  rw [hk, e1] at hat
  have b0 := byte_of (hat 0 (by omega) (1 + i) (by omega) (by omega))
  refine (at0 (strS vs) i hs h0 hh (by omega) w).mono ?_
  rintro e w' ⟨rfl, hw⟩
  refine ⟨ret_int ?_, hw⟩
  rw [b0]; exact e2

theorem at_enc1 (vs : List Int) (h : vs ≠ []) (hk : maxw vs = 1) (i : Nat) (hi : i < vs.length) (hlen : vs.length ≤ 1024) (h64 : ∀ v ∈ vs, in64 v) (w : World) :
    Calls Ybaf.prog 17 #[.string (strS vs), .int .i64 i] w fun e w' => e = .returned (.int .i64 vs[i]) ∧ ∃ n, w' = w.drewN n := by
  have hs := size_le vs h hlen
  have hsz := strS_size vs h
  rw [hk] at hsz
  have h0 : 0 < (strS vs).size := by omega
  have hh := strS_head vs h h0
  rw [hk] at hh
  have hf : fits 1 vs[i] := fits_of 1 _ (h64 _ (List.getElem_mem hi)) (by rw [← hk]; exact lw_maxw vs _ (List.getElem_mem hi)) (by omega)
  obtain ⟨e1, e2⟩ := enc1 vs[i] hf
  have hat := fun j hj q hq hlt => strS_at vs h i j hi hj q hq hlt
  rw [hk, e1] at hat
  have b0 := byte_of (hat 0 (by omega) (1 + 2 * i) (by omega) (by omega))
  have b1 := byte_of (hat 1 (by omega) (1 + 2 * i + 1) (by omega) (by omega))
  refine (at_wide (strS vs) i h0 (by rw [hh]; decide) w _ (wide1 (strS vs) i hs h0 hh (by omega) w)).mono ?_
  rintro e w' ⟨rfl, hw⟩
  refine ⟨ret_int ?_, hw⟩
  rw [b0, b1]; exact e2

theorem at_enc2 (vs : List Int) (h : vs ≠ []) (hk : maxw vs = 2) (i : Nat) (hi : i < vs.length) (hlen : vs.length ≤ 1024) (h64 : ∀ v ∈ vs, in64 v) (w : World) :
    Calls Ybaf.prog 17 #[.string (strS vs), .int .i64 i] w fun e w' => e = .returned (.int .i64 vs[i]) ∧ ∃ n, w' = w.drewN n := by
  have hs := size_le vs h hlen
  have hsz := strS_size vs h
  rw [hk] at hsz
  have h0 : 0 < (strS vs).size := by omega
  have hh := strS_head vs h h0
  rw [hk] at hh
  have hf : fits 2 vs[i] := fits_of 2 _ (h64 _ (List.getElem_mem hi)) (by rw [← hk]; exact lw_maxw vs _ (List.getElem_mem hi)) (by omega)
  obtain ⟨e1, e2⟩ := enc2 vs[i] hf
  have hat := fun j hj q hq hlt => strS_at vs h i j hi hj q hq hlt
  rw [hk, e1] at hat
  have b0 := byte_of (hat 0 (by omega) (1 + 4 * i) (by omega) (by omega))
  have b1 := byte_of (hat 1 (by omega) (1 + 4 * i + 1) (by omega) (by omega))
  have b2 := byte_of (hat 2 (by omega) (1 + 4 * i + 2) (by omega) (by omega))
  have b3 := byte_of (hat 3 (by omega) (1 + 4 * i + 3) (by omega) (by omega))
  refine (at_wide (strS vs) i h0 (by rw [hh]; decide) w _ (wide2 (strS vs) i hs h0 hh (by omega) w)).mono ?_
  rintro e w' ⟨rfl, hw⟩
  refine ⟨ret_int ?_, hw⟩
  rw [b0, b1, b2, b3]; exact e2

theorem at_enc3 (vs : List Int) (h : vs ≠ []) (hk : maxw vs = 3) (i : Nat) (hi : i < vs.length) (hlen : vs.length ≤ 1024) (h64 : ∀ v ∈ vs, in64 v) (w : World) :
    Calls Ybaf.prog 17 #[.string (strS vs), .int .i64 i] w fun e w' => e = .returned (.int .i64 vs[i]) ∧ ∃ n, w' = w.drewN n := by
  have hs := size_le vs h hlen
  have hsz := strS_size vs h
  rw [hk] at hsz
  have h0 : 0 < (strS vs).size := by omega
  have hh := strS_head vs h h0
  rw [hk] at hh
  have hf : fits 3 vs[i] := fits_of 3 _ (h64 _ (List.getElem_mem hi)) (by rw [← hk]; exact lw_maxw vs _ (List.getElem_mem hi)) (by omega)
  obtain ⟨e1, e2⟩ := enc3 vs[i] hf
  have hat := fun j hj q hq hlt => strS_at vs h i j hi hj q hq hlt
  rw [hk, e1] at hat
  have b0 := byte_of (hat 0 (by omega) (1 + 8 * i) (by omega) (by omega))
  have b1 := byte_of (hat 1 (by omega) (1 + 8 * i + 1) (by omega) (by omega))
  have b2 := byte_of (hat 2 (by omega) (1 + 8 * i + 2) (by omega) (by omega))
  have b3 := byte_of (hat 3 (by omega) (1 + 8 * i + 3) (by omega) (by omega))
  have b4 := byte_of (hat 4 (by omega) (1 + 8 * i + 4) (by omega) (by omega))
  have b5 := byte_of (hat 5 (by omega) (1 + 8 * i + 5) (by omega) (by omega))
  have b6 := byte_of (hat 6 (by omega) (1 + 8 * i + 6) (by omega) (by omega))
  have b7 := byte_of (hat 7 (by omega) (1 + 8 * i + 7) (by omega) (by omega))
  refine (at_wide (strS vs) i h0 (by rw [hh]; decide) w _ (wide3 (strS vs) i hs h0 hh (by omega) w)).mono ?_
  rintro e w' ⟨rfl, hw⟩
  refine ⟨ret_int ?_, hw⟩
  rw [b0, b1, b2, b3, b4, b5, b6, b7]; exact e2

theorem at_enc (vs : List Int) (h : vs ≠ []) (i : Nat) (hi : i < vs.length) (hlen : vs.length ≤ 1024) (h64 : ∀ v ∈ vs, in64 v) (w : World) :
    Calls Ybaf.prog 17 #[.string (strS vs), .int .i64 i] w fun e w' => e = .returned (.int .i64 vs[i]) ∧ ∃ n, w' = w.drewN n := by
  have h3 := maxw3 vs
  rcases (show maxw vs = 0 ∨ maxw vs = 1 ∨ maxw vs = 2 ∨ maxw vs = 3 by omega) with hk | hk | hk | hk
  · exact at_enc0 vs h hk i hi hlen h64 w
  · exact at_enc1 vs h hk i hi hlen h64 w
  · exact at_enc2 vs h hk i hi hlen h64 w
  · exact at_enc3 vs h hk i hi hlen h64 w

theorem len_enc (vs : List Int) (hlen : vs.length ≤ 1024) (w : World) : Calls Ybaf.prog 16 #[.string (strS vs)] w fun e w' => e = .returned (.int .i64 vs.length) ∧ w' = w := by
  by_cases h : vs = []
  · subst h; exact len_empty w
  have hs := size_le vs h hlen
  have hsz := strS_size vs h
  have h0 : 0 < (strS vs).size := by omega
  have hh := strS_head vs h h0
  have h3 := maxw3 vs
  rcases (show maxw vs = 0 ∨ maxw vs = 1 ∨ maxw vs = 2 ∨ maxw vs = 3 by omega) with hk | hk | hk | hk
  · rw [hk] at hsz hh; exact len0 (strS vs) vs.length hs h0 hh hsz w
  · rw [hk] at hsz hh; exact len1 (strS vs) vs.length hs h0 hh hsz w
  · rw [hk] at hsz hh; exact len2 (strS vs) vs.length hs h0 hh hsz w
  · rw [hk] at hsz hh; exact len3 (strS vs) vs.length hs h0 hh hsz w

end Go.Proofs.YbulkdczcFmt
