/-
  THE WALKS of grants.has (8), hqcPick.hi (10), hqcPick.open (9).
-/
import Derived.Test.YbulkdczqRows
import Derived.WalkKit
import Derived.WalkSpells
import Derived.WalkLawsBesides
import Derived.Below
namespace Go.Proofs.Ybulkdczq
open Go.RowKit

/-- Bit x of g. -/
def hasB (g x : Int) : Bool := bits BinOp.and IntKind.u8 g (2 ^ x.toNat) != 0

set_option maxHeartbeats 400000 in
theorem has_any (g x : Int) (h0 : 0 ≤ x) (h3 : x ≤ 3) (w : World) : Calls Yba.prog 8 #[.int .u8 g, .int .i64 x] w fun e w' => e = .returned (.bool (hasB g x)) ∧ w' = w := by
  rcases (show x = 0 ∨ x = 1 ∨ x = 2 ∨ x = 3 by omega) with rfl | rfl | rfl | rfl
  · go_enter Yba.func8, Yba.ntmps8
    go_wp2
    go_ret
    exact ⟨rfl, rfl⟩
  · go_enter Yba.func8, Yba.ntmps8
    go_wp2
    go_ret
    exact ⟨rfl, rfl⟩
  · go_enter Yba.func8, Yba.ntmps8
    go_wp2
    go_ret
    exact ⟨rfl, rfl⟩
  · go_enter Yba.func8, Yba.ntmps8
    go_wp2
    go_ret
    exact ⟨rfl, rfl⟩

/-- Can the counts still close? -/
def openB (P lo : Int) (b : Bool) (parts of left : Int) : Bool :=
  decide (0 ≤ P - parts) && (decide (P - parts ≤ left) && (decide (of ≤ if b then P else lo) && decide (lo - of ≤ P - parts)))

def sm (x : Int) : Prop := -100000 ≤ x ∧ x ≤ 100000

set_option maxHeartbeats 1000000 in
theorem open_any (P lo o r : Int) (b : Bool) (parts of left : Int) (h1 : sm P) (h2 : sm lo) (h3 : sm parts) (h4 : sm of) (w : World) :
    Calls Yba.prog 9 #[.agg #[.int .i64 P, .int .i64 lo, .int .i64 o, .int .i64 r, .bool b], .int .i64 parts, .int .i64 of, .int .i64 left] w fun e w' => e = .returned (.bool (openB P lo b parts of left)) ∧ Below w.heap.size w w' := by
  obtain ⟨_, _⟩ := h1; obtain ⟨_, _⟩ := h2; obtain ⟨_, _⟩ := h3; obtain ⟨_, _⟩ := h4
  have e : ∀ x, openB P lo b parts of left = x → (Calls Yba.prog 9 #[.agg #[.int .i64 P, .int .i64 lo, .int .i64 o, .int .i64 r, .bool b], .int .i64 parts, .int .i64 of, .int .i64 left] w fun e w' => e = .returned (.bool x) ∧ Below w.heap.size w w') → (Calls Yba.prog 9 #[.agg #[.int .i64 P, .int .i64 lo, .int .i64 o, .int .i64 r, .bool b], .int .i64 parts, .int .i64 of, .int .i64 left] w fun e w' => e = .returned (.bool (openB P lo b parts of left)) ∧ Below w.heap.size w w') := fun x hx h => by rw [hx]; exact h
  by_cases c1 : 0 ≤ P - parts
  · by_cases c2 : P - parts ≤ left
    · cases b with
      | true =>
        by_cases c3 : of ≤ P
        · by_cases c4 : lo - of ≤ P - parts
          · refine e true (by simp [openB, c2, c3, c4]; omega) ?_
            go_enter Yba.func9, Yba.ntmps9
            go_wp2
            go_ret
            exact ⟨rfl, by repeat (first | exact Below.refl _ _ | apply Below.drew | (refine Below.alloc ?_ (by simp; try omega) _))⟩
          · refine e false (by simp [openB, c4]) ?_
            go_enter Yba.func9, Yba.ntmps9
            go_wp2
            go_ret
            exact ⟨rfl, by repeat (first | exact Below.refl _ _ | apply Below.drew | (refine Below.alloc ?_ (by simp; try omega) _))⟩
        · refine e false (by simp [openB, c3]) ?_
          go_enter Yba.func9, Yba.ntmps9
          go_wp2
          go_ret
          exact ⟨rfl, by repeat (first | exact Below.refl _ _ | apply Below.drew | (refine Below.alloc ?_ (by simp; try omega) _))⟩
      | false =>
        by_cases c3 : of ≤ lo
        · by_cases c4 : lo - of ≤ P - parts
          · refine e true (by simp [openB, c2, c3, c4]; omega) ?_
            go_enter Yba.func9, Yba.ntmps9
            go_wp2
            go_ret
            exact ⟨rfl, by repeat (first | exact Below.refl _ _ | apply Below.drew | (refine Below.alloc ?_ (by simp; try omega) _))⟩
          · refine e false (by simp [openB, c4]) ?_
            go_enter Yba.func9, Yba.ntmps9
            go_wp2
            go_ret
            exact ⟨rfl, by repeat (first | exact Below.refl _ _ | apply Below.drew | (refine Below.alloc ?_ (by simp; try omega) _))⟩
        · refine e false (by simp [openB, c3]) ?_
          go_enter Yba.func9, Yba.ntmps9
          go_wp2
          go_ret
          exact ⟨rfl, by repeat (first | exact Below.refl _ _ | apply Below.drew | (refine Below.alloc ?_ (by simp; try omega) _))⟩
    · refine e false (by simp [openB, c2]) ?_
      go_enter Yba.func9, Yba.ntmps9
      go_wp2
      go_ret
      exact ⟨rfl, by repeat (first | exact Below.refl _ _ | apply Below.drew | (refine Below.alloc ?_ (by simp; try omega) _))⟩
  · refine e false (by unfold openB; rw [decide_eq_false c1]; rfl) ?_
    go_enter Yba.func9, Yba.ntmps9
    go_wp2
    go_ret
    exact ⟨rfl, by repeat (first | exact Below.refl _ _ | apply Below.drew | (refine Below.alloc ?_ (by simp; try omega) _))⟩

end Go.Proofs.Ybulkdczq
