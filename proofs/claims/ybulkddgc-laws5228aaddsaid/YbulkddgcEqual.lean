/-
  THE WALK of bytes.Equal (5), at two slices that hold the same bytes.
-/
import Derived.Test.YbulkddgcUpTo
import Derived.Laws.BytesArg
namespace Go.Proofs.Ybulkddgc
open Go.RowKit

/-- The bytes xs lie from p on; or there are none. -/
def Bytes (w : World) (p : Option Addr) (xs : List Int) : Prop := xs = [] ∨ ∃ b o, p = some ⟨b, o, none⟩ ∧ ∀ j, j < xs.length → w.cell? ⟨b, o + j, none⟩ = some (.int .u8 (xs.getD j 0))

theorem conv_zero (w : World) (p : Option Addr) (c : Nat) : (convert 22 9 (.slice p 0 c)).run Yba.prog w = .ok (.string ByteArray.empty) w := by
  rw [run_convert_bytes_string w 22 9 5 _ 0 c Yba.underlying22 Yba.underlying5 Yba.underlying9]
  cases p <;> simp [Conv.bytesToString, loadCells]
  all_goals rfl

theorem conv_bytes (w : World) (xs : List Int) : ∃ S, ∀ p' c, Bytes w p' xs → (convert 22 9 (.slice p' xs.length c)).run Yba.prog w = .ok (.string S) w := by
  cases xs with
  | nil => exact ⟨_, fun p' c _ => conv_zero w p' c⟩
  | cons x r =>
    refine ⟨strOfNums (x :: r), fun p' c h' => ?_⟩
    rcases h' with h' | ⟨b, o, rfl, hc⟩
    · cases h'
    · exact run_convert_bytes_arg (P := Yba.prog) w 22 5 Yba.underlying22 Yba.underlying5 b o _ c (x :: r) rfl hc 9 Yba.underlying9

set_option maxHeartbeats 1000000 in
theorem equal_same (p1 p2 : Option Addr) (n c d : Nat) (xs : List Int) (w : World) (hn : xs.length = n) (h1 : Bytes w p1 xs) (h2 : Bytes w p2 xs) :
    Calls Yba.prog 5 #[.slice p1 n c, .slice p2 n d] w fun e w' => e = .returned (.bool true) ∧ w' = w := by
  obtain ⟨S, hS⟩ := conv_bytes w xs
  have e1 := hS p1 c h1
  have e2 := hS p2 d h2
  rw [hn] at e1 e2
  have es : (S.toList == S.toList) = true := by simp
  clear hS h1 h2 hn
  go_enter Yba.func5, Yba.ntmps5
  go_wp2_with fail
  go_ret
  exact ⟨rfl, rfl⟩
end Go.Proofs.Ybulkddgc
