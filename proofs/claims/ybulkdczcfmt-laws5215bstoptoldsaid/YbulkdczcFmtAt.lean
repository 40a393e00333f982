/-
  THE WALKS of logWidth (21), ints.len (16), ints.at (17), ints.wide (26).
-/
import Derived.Test.YbulkdczcFmtRows
import Derived.WalkKit
import Derived.WalkSpells
import Derived.WalkLawsBesides
import Derived.Deep.QuietTactic
import Derived.BigQuiet
import Derived.Lib.Strings
import Derived.Test.YbulkdczcFmtBits
namespace Go.Proofs.YbulkdczcFmt
open Go.RowKit

/-- How many bytes an integer wants: 0, 1, 2, 3 for 1, 2, 4, 8. -/
def lw (v : Int) : Nat := if -128 ≤ v ∧ v ≤ 127 then 0 else if -32768 ≤ v ∧ v ≤ 32767 then 1 else if -2147483648 ≤ v ∧ v ≤ 2147483647 then 2 else 3

set_option maxHeartbeats 400000 in
theorem logWidth_any (v : Int) (w : World) : Calls Ybaf.prog 21 #[.int .i64 v] w fun e w' => e = .returned (.int .u8 (lw v)) ∧ w' = w := by
  by_cases a1 : -128 ≤ v ∧ v ≤ 127
  · obtain ⟨h1, h2⟩ := a1
    have e : lw v = 0 := by simp [lw, h1, h2]
    rw [e]
    go_enter Ybaf.func21, Ybaf.ntmps21
    go_wp2
    go_ret
    exact ⟨rfl, rfl⟩
  · by_cases a2 : -32768 ≤ v ∧ v ≤ 32767
    · have e : lw v = 1 := by unfold lw; rw [if_neg a1, if_pos a2]
      rw [e]
      obtain ⟨h1, h2⟩ := a2
      rcases Int.lt_or_le v (-128) with h3 | h3
      · have h4 : ¬ -128 ≤ v := by omega
        clear a1
        go_enter Ybaf.func21, Ybaf.ntmps21
        go_wp2
        go_ret
        exact ⟨rfl, rfl⟩
      · have h4 : ¬ v ≤ 127 := by omega
        clear a1
        go_enter Ybaf.func21, Ybaf.ntmps21
        go_wp2
        go_ret
        exact ⟨rfl, rfl⟩
    · by_cases a3 : -2147483648 ≤ v ∧ v ≤ 2147483647
      · have e : lw v = 2 := by unfold lw; rw [if_neg a1, if_neg a2, if_pos a3]
        rw [e]
        obtain ⟨h1, h2⟩ := a3
        rcases Int.lt_or_le v (-32768) with h3 | h3
        · have h4 : ¬ -128 ≤ v := by omega
          have h5 : ¬ -32768 ≤ v := by omega
          clear a1 a2
          go_enter Ybaf.func21, Ybaf.ntmps21
          go_wp2
          go_ret
          exact ⟨rfl, rfl⟩
        · have h3' : -128 ≤ v := by omega
          have h4 : ¬ v ≤ 127 := by omega
          have h5 : ¬ v ≤ 32767 := by omega
          clear a1 a2
          go_enter Ybaf.func21, Ybaf.ntmps21
          go_wp2
          go_ret
          exact ⟨rfl, rfl⟩
      · have e : lw v = 3 := by unfold lw; rw [if_neg a1, if_neg a2, if_neg a3]
        rw [e]
        rcases Int.lt_or_le v (-2147483648) with h3 | h3
        · have h4 : ¬ -128 ≤ v := by omega
          have h5 : ¬ -32768 ≤ v := by omega
          have h6 : ¬ -2147483648 ≤ v := by omega
          clear a1 a2 a3
          go_enter Ybaf.func21, Ybaf.ntmps21
          go_wp2
          go_ret
          exact ⟨rfl, rfl⟩
        · have h3' : -128 ≤ v := by omega
          have h4 : ¬ v ≤ 127 := by omega
          have h5 : ¬ v ≤ 32767 := by omega
          have h5' : -32768 ≤ v := by omega
          have h6 : ¬ v ≤ 2147483647 := by omega
          clear a1 a2 a3
          go_enter Ybaf.func21, Ybaf.ntmps21
          go_wp2
          go_ret
          exact ⟨rfl, rfl⟩

theorem ret_int {k : IntKind} {a b : Int} (h : a = b) : Ending.returned (.int k a) = .returned (.int k b) := by rw [h]

theorem ne_toList (s : ByteArray) (h0 : 0 < s.size) : s.toList.isEmpty = false := by
  cases h : s.toList with
  | nil =>
    rw [ByteArray.toList_eq] at h
    have h2 : s.data.toList.length = 0 := by rw [h]; rfl
    have h3 : s.size = s.data.toList.length := Lib.size_eq s
    omega
  | cons x r => rfl

theorem ext_size (s : ByteArray) (a b : Nat) (hb : b ≤ s.size) : (s.extract a b).size = b - a := by
  rw [ByteArray.size_extract]; omega
theorem ext_get (s : ByteArray) (a b : Nat) (j : Nat) (h : j < (s.extract a b).size) (h' : a + j < s.size) : (s.extract a b)[j] = s[a + j] := by
  simp [ByteArray.getElem_extract]

set_option maxHeartbeats 1000000 in
theorem wide1 (s : ByteArray) (i : Nat) (hs : s.size ≤ 8193) (h0 : 0 < s.size) (hk : s[0] = 1) (hi : 3 + 2 * i ≤ s.size) (w : World) :
    Calls Ybaf.prog 26 #[.string s, .int .i64 i] w fun e w' => e = .returned (.int .i64 (((s[1 + 2 * i]'(by omega)).toNat : Int) * 256 + ((s[1 + 2 * i + 1]'(by omega)).toNat : Int) - 32768)) ∧ ∃ n, w' = w.drewN n := by
  go_enter Ybaf.func26, Ybaf.ntmps26
  go_wp2_with fail
  have z := ext_size s (1 + 2 * i) (3 + 2 * i) hi
  have G : Hid (∀ j (h : j < (s.extract (1 + 2 * i) (3 + 2 * i)).size) (h' : 1 + 2 * i + j < s.size), (s.extract (1 + 2 * i) (3 + 2 * i))[j] = s[1 + 2 * i + j]) := ext_get s (1 + 2 * i) (3 + 2 * i)
  generalize s.extract (1 + 2 * i) (3 + 2 * i) = t at *
  have z0 : 0 < t.size := by omega
  have z1 : 1 < t.size := by omega
  have y0 : (0 : Int) < (t.size : Int) := by omega
  have y1 : (1 : Int) < (t.size : Int) := by omega
  clear z
  go_quiet (fail)
  go_wp2_with fail
  go_ret
  refine ⟨ret_int ((dec1 _ _ (UInt8.toNat_lt _) (UInt8.toNat_lt _)).trans ?_), nq, rfl⟩
  rw [G.out 0 (by omega) (by omega), G.out 1 (by omega) (by omega)]
  rfl

set_option maxHeartbeats 1000000 in
theorem wide2 (s : ByteArray) (i : Nat) (hs : s.size ≤ 8193) (h0 : 0 < s.size) (hk : s[0] = 2) (hi : 5 + 4 * i ≤ s.size) (w : World) :
    Calls Ybaf.prog 26 #[.string s, .int .i64 i] w fun e w' => e = .returned (.int .i64 (((s[1 + 4 * i]'(by omega)).toNat : Int) * 16777216 + ((s[1 + 4 * i + 1]'(by omega)).toNat : Int) * 65536 + ((s[1 + 4 * i + 2]'(by omega)).toNat : Int) * 256 + ((s[1 + 4 * i + 3]'(by omega)).toNat : Int) - 2147483648)) ∧ ∃ n, w' = w.drewN n := by
  go_enter Ybaf.func26, Ybaf.ntmps26
  go_wp2_with fail
  have z := ext_size s (1 + 4 * i) (5 + 4 * i) hi
  have G : Hid (∀ j (h : j < (s.extract (1 + 4 * i) (5 + 4 * i)).size) (h' : 1 + 4 * i + j < s.size), (s.extract (1 + 4 * i) (5 + 4 * i))[j] = s[1 + 4 * i + j]) := ext_get s (1 + 4 * i) (5 + 4 * i)
  generalize s.extract (1 + 4 * i) (5 + 4 * i) = t at *
  have z0 : 0 < t.size := by omega
  have z1 : 1 < t.size := by omega
  have z2 : 2 < t.size := by omega
  have z3 : 3 < t.size := by omega
  have y0 : (0 : Int) < (t.size : Int) := by omega
  have y1 : (1 : Int) < (t.size : Int) := by omega
  have y2 : (2 : Int) < (t.size : Int) := by omega
  have y3 : (3 : Int) < (t.size : Int) := by omega
  clear z
  go_quiet (fail)
  go_wp2_with fail
  go_ret
  refine ⟨ret_int ((dec2 _ _ _ _ (UInt8.toNat_lt _) (UInt8.toNat_lt _) (UInt8.toNat_lt _) (UInt8.toNat_lt _)).trans ?_), nq, rfl⟩
  rw [G.out 0 (by omega) (by omega), G.out 1 (by omega) (by omega), G.out 2 (by omega) (by omega), G.out 3 (by omega) (by omega)]
  rfl

set_option maxHeartbeats 1000000 in
theorem wide3 (s : ByteArray) (i : Nat) (hs : s.size ≤ 8193) (h0 : 0 < s.size) (hk : s[0] = 3) (hi : 9 + 8 * i ≤ s.size) (w : World) :
    Calls Ybaf.prog 26 #[.string s, .int .i64 i] w fun e w' => e = .returned (.int .i64 (((s[1 + 8 * i]'(by omega)).toNat : Int) * 72057594037927936 + ((s[1 + 8 * i + 1]'(by omega)).toNat : Int) * 281474976710656 + ((s[1 + 8 * i + 2]'(by omega)).toNat : Int) * 1099511627776 + ((s[1 + 8 * i + 3]'(by omega)).toNat : Int) * 4294967296 + ((s[1 + 8 * i + 4]'(by omega)).toNat : Int) * 16777216 + ((s[1 + 8 * i + 5]'(by omega)).toNat : Int) * 65536 + ((s[1 + 8 * i + 6]'(by omega)).toNat : Int) * 256 + ((s[1 + 8 * i + 7]'(by omega)).toNat : Int) - 9223372036854775808)) ∧ ∃ n, w' = w.drewN n := by
  go_enter Ybaf.func26, Ybaf.ntmps26
  go_wp2_with fail
  have z := ext_size s (1 + 8 * i) (9 + 8 * i) hi
  have G : Hid (∀ j (h : j < (s.extract (1 + 8 * i) (9 + 8 * i)).size) (h' : 1 + 8 * i + j < s.size), (s.extract (1 + 8 * i) (9 + 8 * i))[j] = s[1 + 8 * i + j]) := ext_get s (1 + 8 * i) (9 + 8 * i)
  generalize s.extract (1 + 8 * i) (9 + 8 * i) = t at *
  have z0 : 0 < t.size := by omega
  have z1 : 1 < t.size := by omega
  have z2 : 2 < t.size := by omega
  have z3 : 3 < t.size := by omega
  have z4 : 4 < t.size := by omega
  have z5 : 5 < t.size := by omega
  have z6 : 6 < t.size := by omega
  have z7 : 7 < t.size := by omega
  have y0 : (0 : Int) < (t.size : Int) := by omega
  have y1 : (1 : Int) < (t.size : Int) := by omega
  have y2 : (2 : Int) < (t.size : Int) := by omega
  have y3 : (3 : Int) < (t.size : Int) := by omega
  have y4 : (4 : Int) < (t.size : Int) := by omega
  have y5 : (5 : Int) < (t.size : Int) := by omega
  have y6 : (6 : Int) < (t.size : Int) := by omega
  have y7 : (7 : Int) < (t.size : Int) := by omega
  clear z
  go_quiet (fail)
  go_wp2_with fail
  go_ret
  refine ⟨ret_int ((dec3 _ _ _ _ _ _ _ _ (UInt8.toNat_lt _) (UInt8.toNat_lt _) (UInt8.toNat_lt _) (UInt8.toNat_lt _) (UInt8.toNat_lt _) (UInt8.toNat_lt _) (UInt8.toNat_lt _) (UInt8.toNat_lt _)).trans ?_), nq, rfl⟩
  rw [G.out 0 (by omega) (by omega), G.out 1 (by omega) (by omega), G.out 2 (by omega) (by omega), G.out 3 (by omega) (by omega), G.out 4 (by omega) (by omega), G.out 5 (by omega) (by omega), G.out 6 (by omega) (by omega), G.out 7 (by omega) (by omega)]
  rfl


set_option maxHeartbeats 400000 in
theorem at0 (s : ByteArray) (i : Nat) (hs : s.size ≤ 8193) (h0 : 0 < s.size) (hk : s[0] = 0) (hi : 1 + i < s.size) (w : World) :
    Calls Ybaf.prog 17 #[.string s, .int .i64 i] w fun e w' => e = .returned (.int .i64 ((s[1 + i].toNat : Int) - 128)) ∧ ∃ n, w' = w.drewN n := by
  go_enter Ybaf.func17, Ybaf.ntmps17
  go_wp2_with fail
  go_ret
  exact ⟨ret_int (dec0 _ (UInt8.toNat_lt _)), 0, rfl⟩

set_option maxHeartbeats 400000 in
theorem at_wide (s : ByteArray) (i : Nat) (h0 : 0 < s.size) (hk : 1 ≤ s[0].toNat) (w : World) (r : Int) (h : Calls Ybaf.prog 26 #[.string s, .int .i64 i] w fun e w' => e = .returned (.int .i64 r) ∧ ∃ n, w' = w.drewN n) :
    Calls Ybaf.prog 17 #[.string s, .int .i64 i] w fun e w' => e = .returned (.int .i64 r) ∧ ∃ n, w' = w.drewN n := by
  have hb : ((s[0].toNat : Int) == 0) = false := beq_eq_false_iff_ne.2 (by omega)
  have H : Hid (Calls Ybaf.prog 26 #[.string s, .int .i64 i] w fun e w' => e = .returned (.int .i64 r) ∧ ∃ n, w' = w.drewN n) := h
  clear h
  go_enter Ybaf.func17, Ybaf.ntmps17
  go_wp2_with fail
  refine H.out.mono ?_
  rintro e w' ⟨rfl, n, rfl⟩
  go_wp2_with fail
  go_ret
  exact ⟨rfl, n, rfl⟩

set_option maxHeartbeats 400000 in
theorem len_empty (w : World) : Calls Ybaf.prog 16 #[.string ByteArray.empty] w fun e w' => e = .returned (.int .i64 0) ∧ w' = w := by
  go_enter Ybaf.func16, Ybaf.ntmps16
  go_wp2
  go_ret
  exact ⟨rfl, rfl⟩

set_option maxHeartbeats 400000 in
theorem len0 (s : ByteArray) (n : Nat) (hs : s.size ≤ 8193) (h0 : 0 < s.size) (hk : s[0] = 0) (hn : s.size = 1 + n * 1) (w : World) : Calls Ybaf.prog 16 #[.string s] w fun e w' => e = .returned (.int .i64 n) ∧ w' = w := by
  have H : Hid (s.size = 1 + n * 1) := hn
  have hne : s.toList.isEmpty = false := by
    exact ne_toList s h0
  clear hn
  go_enter Ybaf.func16, Ybaf.ntmps16
  go_wp2_with fail
  go_ret
  exact ⟨ret_int (by have := H.out; omega), rfl⟩

set_option maxHeartbeats 400000 in
theorem len1 (s : ByteArray) (n : Nat) (hs : s.size ≤ 8193) (h0 : 0 < s.size) (hk : s[0] = 1) (hn : s.size = 1 + n * 2) (w : World) : Calls Ybaf.prog 16 #[.string s] w fun e w' => e = .returned (.int .i64 n) ∧ w' = w := by
  have H : Hid (s.size = 1 + n * 2) := hn
  have hne : s.toList.isEmpty = false := by
    exact ne_toList s h0
  clear hn
  go_enter Ybaf.func16, Ybaf.ntmps16
  go_wp2_with fail
  go_ret
  exact ⟨ret_int (by have := H.out; omega), rfl⟩

set_option maxHeartbeats 400000 in
theorem len2 (s : ByteArray) (n : Nat) (hs : s.size ≤ 8193) (h0 : 0 < s.size) (hk : s[0] = 2) (hn : s.size = 1 + n * 4) (w : World) : Calls Ybaf.prog 16 #[.string s] w fun e w' => e = .returned (.int .i64 n) ∧ w' = w := by
  have H : Hid (s.size = 1 + n * 4) := hn
  have hne : s.toList.isEmpty = false := by
    exact ne_toList s h0
  clear hn
  go_enter Ybaf.func16, Ybaf.ntmps16
  go_wp2_with fail
  go_ret
  exact ⟨ret_int (by have := H.out; omega), rfl⟩

set_option maxHeartbeats 400000 in
theorem len3 (s : ByteArray) (n : Nat) (hs : s.size ≤ 8193) (h0 : 0 < s.size) (hk : s[0] = 3) (hn : s.size = 1 + n * 8) (w : World) : Calls Ybaf.prog 16 #[.string s] w fun e w' => e = .returned (.int .i64 n) ∧ w' = w := by
  have H : Hid (s.size = 1 + n * 8) := hn
  have hne : s.toList.isEmpty = false := by
    exact ne_toList s h0
  clear hn
  go_enter Ybaf.func16, Ybaf.ntmps16
  go_wp2_with fail
  go_ret
  exact ⟨ret_int (by have := H.out; omega), rfl⟩

end Go.Proofs.YbulkdczcFmt
